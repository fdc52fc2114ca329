/-
  The law LawS5090APlainCrossings (function 3), walked.
-/
import Derived.Test.YbulkdajuWalkA
import Derived.Deep.WholeRow
namespace Go.Proofs.Ybulkdaju
open Go.RowKit

theorem copy_new (w1 : World) (b N : Nat) (xs : List Int) (hl : xs.length = N) (hr : RowIs w1 b xs) (ty : TypeId) :
    (Builtin.copy_ #[22, 22] ty #[.slice (some ⟨w1.heap.size, 0, none⟩) N N, .slice (some ⟨b, 0, none⟩) N N]).run Yba.prog (w1.alloc (.cells (madeCells #[.int .u64 0] N) 23)) = .ok (goInt N) (w1.alloc (.cells (xs.map (Value.int .u64)).toArray 23)) := by
  have h := run_copy_row (P := Yba.prog) (w1.alloc (.cells (madeCells #[.int .u64 0] N) 23)) 22 22 ty 23 w1.heap.size 0 N N ⟨b, 0, none⟩ N N (madeCells #[.int .u64 0] N) 23 (xs.map (Value.int .u64))
    Yba.underlying22 (by kernel_rfl) (heap_alloc_new w1 _) (by simp [hl]) ?_ (by simp [hl, madeCells]) (by simp [Value.oneCell'])
  · rw [h, World.setRow_alloc_new]
    have e : List.drop (0 + (xs.map (Value.int .u64)).length) (madeCells #[.int .u64 0] N).toList = [] := by rw [toList_madeCells_one]; simp [hl]
    rw [e]
    simp [hl]
  · intro j v hj
    have hjl : j < xs.length := by
      rcases Nat.lt_or_ge j xs.length with h' | h'
      · exact h'
      · rw [List.getElem?_eq_none (by simpa using h')] at hj; cases hj
    have hc := (hr.alloc (.cells (madeCells #[.int .u64 0] N) 23)).cell j hjl
    simp [hjl] at hj
    rw [show (⟨b, 0, none⟩ : Addr).add j = ⟨b, j, none⟩ by unfold Addr.add; split <;> simp_all, hc, ← hj]
    simp [hjl]
/-- The first k of rs are the remainders of the first k of z. -/
def Upto (rs z : List Int) (m : Int) (k : Nat) : Prop := ∀ j, j < k → rs.getD j 0 = z.getD j 0 % m
theorem Upto.set {rs z : List Int} {m : Int} {k : Nat} (h : Upto rs z m k) (hk : k < rs.length) {p q : Int} (hp : z.getD k 0 = p) (hq : p % m = q) : Upto (rs.set k q) z m (k + 1) := by
  intro j hj
  rw [List.getD_eq_getElem?_getD, List.getElem?_set]
  by_cases e : k = j
  · subst e; rw [if_pos rfl, if_pos hk, hp, hq]; rfl
  · rw [if_neg e, ← List.getD_eq_getElem?_getD]; exact h j (by omega)
/-- The blocks of the call's own behind the making of the rows. -/
structure M3 (w wr : World) (xs rs : List Int) : Prop where
  x : RowIs wr w.heap.size xs
  k : RowIs wr (w.heap.size + 1) xs
  r : RowIs wr (w.heap.size + 2) rs
  b : Below w.heap.size w wr
  s : wr.heap.size = w.heap.size + 3
structure M4 (w wr : World) (xs rs cs : List Int) : Prop where
  x : RowIs wr w.heap.size xs
  k : RowIs wr (w.heap.size + 1) xs
  r : RowIs wr (w.heap.size + 2) rs
  c : RowIs wr (w.heap.size + 3) cs
  b : Below w.heap.size w wr
  s : wr.heap.size = w.heap.size + 4
theorem RowIs.newAs (w : World) (xs : List Int) : RowIs (w.alloc (.cells (xs.map (Value.int .u64)).toArray 23)) w.heap.size xs := heap_alloc_new w _
theorem M3.start {w w1 : World} {xs : List Int} (n : Nat) (hx : RowIs w1 w.heap.size xs) (hb : Below w.heap.size w w1) (hs : w1.heap.size = w.heap.size + 1) :
    M3 w ((w1.alloc (.cells (xs.map (Value.int .u64)).toArray 23)).alloc (.cells (madeCells #[.int .u64 0] n) 23)) xs (List.replicate n 0) := by
  have n1 := RowIs.newAs w1 xs
  have n2 := RowIs.new (w1.alloc (.cells (xs.map (Value.int .u64)).toArray 23)) n
  simp only [World.size_alloc, hs] at n1 n2
  exact ⟨(hx.alloc _).alloc _, n1.alloc _, n2, (hb.alloc (by omega) _).alloc (by simp; omega) _, by simp [hs]⟩
theorem M3.set {w wr : World} {xs rs : List Int} (h : M3 w wr xs rs) (k : Nat) (v : Int) : M3 w (wr.setCell ⟨w.heap.size + 2, k, none⟩ (.int .u64 v)) xs (rs.set k v) :=
  ⟨h.x.other _ (by simp), h.k.other _ (by simp), h.r.set k v, h.b.setCell (by simp) _, by simpa [World.setCell] using h.s⟩
theorem M3.next {w wr : World} {xs rs : List Int} (h : M3 w wr xs rs) (n : Nat) : M4 w (wr.alloc (.cells (madeCells #[.int .u64 0] n) 23)) xs rs (List.replicate n 0) := by
  have n1 := RowIs.new wr n
  rw [h.s] at n1
  exact ⟨h.x.alloc _, h.k.alloc _, h.r.alloc _, n1, h.b.alloc (by rw [h.s]; omega) _, by simp [h.s]⟩
theorem M4.set {w wr : World} {xs rs cs : List Int} (h : M4 w wr xs rs cs) (k : Nat) (v : Int) : M4 w (wr.setCell ⟨w.heap.size + 3, k, none⟩ (.int .u64 v)) xs rs (cs.set k v) :=
  ⟨h.x.other _ (by simp), h.k.other _ (by simp), h.r.other _ (by simp), h.c.set k v, h.b.setCell (by simp) _, by simpa [World.setCell] using h.s⟩
/-- All five blocks of the call's own, as far as they are read. -/
structure M5 (w wr : World) (xs rs cs : List Int) : Prop where
  x : RowIs wr w.heap.size xs
  k : RowIs wr (w.heap.size + 1) xs
  r : RowIs wr (w.heap.size + 2) rs
  c : RowIs wr (w.heap.size + 3) cs
  b : Below w.heap.size w wr
theorem M4.done {w wr : World} {xs rs cs : List Int} (h : M4 w wr xs rs cs) (o : Obj) (n : Nat) : M5 w ((wr.alloc o).drewN n) xs rs cs :=
  ⟨(h.x.alloc o).drewN n, (h.k.alloc o).drewN n, (h.r.alloc o).drewN n, (h.c.alloc o).drewN n, below_drewN (h.b.alloc (by rw [h.s]; omega) o) n⟩
theorem M5.drewN {w wr : World} {xs rs cs : List Int} (h : M5 w wr xs rs cs) (n : Nat) : M5 w (wr.drewN n) xs rs cs :=
  ⟨h.x.drewN n, h.k.drewN n, h.r.drewN n, h.c.drewN n, below_drewN h.b n⟩
theorem Upto.all {rs z : List Int} {m : Int} (hu : Upto rs z m rs.length) (hm : 0 < m) : ∀ r ∈ rs, 0 ≤ r ∧ r < m := by
  intro r hr
  obtain ⟨j, hj, rfl⟩ := List.getElem_of_mem hr
  have h := hu j hj
  rw [List.getD_eq_getElem?_getD, List.getElem?_eq_getElem hj] at h
  simp only [Option.getD_some] at h
  rw [h]
  exact ⟨Int.emod_nonneg _ (by omega), Int.emod_lt_of_pos _ hm⟩
theorem inside {m1 m2 mm r c : Int} {N : Nat} (hmm : m1 * m2 = mm) (hN : (N : Int) = (mm + 63) / 64) (hr : 0 ≤ r ∧ r < m1) (hc : 0 ≤ c ∧ c < m2) : 0 ≤ c ∧ r * m2 + c < 64 * N := by
  have h : (r + 1) * m2 ≤ m1 * m2 := Int.mul_le_mul_of_nonneg_right (by omega) (by omega)
  rw [Int.add_mul, Int.one_mul, hmm] at h
  exact ⟨hc.1, by omega⟩
theorem inside_all {m1 m2 mm : Int} {N : Nat} {rs cs : List Int} (hmm : m1 * m2 = mm) (hN : (N : Int) = (mm + 63) / 64) (hr : ∀ r ∈ rs, 0 ≤ r ∧ r < m1) (hc : ∀ c ∈ cs, 0 ≤ c ∧ c < m2) : ∀ r ∈ rs, ∀ c ∈ cs, 0 ≤ c ∧ r * m2 + c < 64 * N :=
  fun r h c h' => inside hmm hN (hr r h) (hc c h')
/-- What came in is there behind the call's own work. -/
theorem Came.later {w wr : World} {a : Option Addr} {n : Nat} {zs : List Int} (h : Came w a n zs) (hb : Below w.heap.size w wr) (hn : 0 < n) :
    ∃ b off, a = some ⟨b, off, none⟩ ∧ ∀ i, i < n → wr.cell? ⟨b, off + i, none⟩ = some (.int .u64 (zs.getD i 0)) := by
  obtain ⟨b, off, e, hc⟩ := h.2.2 hn
  refine ⟨b, off, e, fun i hi => ?_⟩
  exact (hb.cell (p := ⟨b, off + i, none⟩) (World.block_lt_of_cell? w ⟨b, off + i, none⟩ (hc i hi))).trans (hc i hi)
theorem Came.range {w : World} {a : Option Addr} {n : Nat} {zs : List Int} (h : Came w a n zs) (i : Nat) (hi : i < n) : 0 ≤ zs.getD i 0 ∧ zs.getD i 0 ≤ 18446744073709551615 :=
  h.2.1 _ (getD_mem (by have := h.1; omega))
theorem words_any (n : Int) (a : Option Addr) (len cap : Nat) (zs : List Int) (fill : Int) (w : World) (hn : 1 ≤ n) (hn' : n ≤ 2000) (hlen : len ≤ 1024) (hf0 : 0 ≤ fill) (hf1 : fill ≤ 255)
    (hz : Came w a len zs) : Calls Yba.prog 8 #[.int .u64 n, .slice a len cap, .int .u8 fill] w (Made w n) := by
  cases hf : (fill % 2 == 0) with
  | true => exact words_even n a len cap zs fill w hn hn' hlen hf hf0 hf1 hz
  | false => exact words_odd n a len cap zs fill w hn hn' hlen hf hf0 hf1 hz

set_option maxRecDepth 100000 in
set_option maxHeartbeats 400000 in
theorem plain_walk (a0 a1 a2 : Int) (a3 a4 a5 : Option Addr) (n3 n4 n5 c3 c4 c5 : Nat) (z3 z4 z5 : List Int) (w : World) (h0 : 0 ≤ a0) (h0' : a0 ≤ 255) (h1 : 0 ≤ a1) (h1' : a1 ≤ 255) (h2 : 0 ≤ a2) (h2' : a2 ≤ 255)
    (r3 : Came w a3 n3 z3) (r4 : Came w a4 n4 z4) (r5 : Came w a5 n5 z5) (l3 : n3 ≤ 1024) (l4 : n4 ≤ 1024) (l5 : n5 ≤ 1024) :
    Calls Yba.prog 3 #[.int .u8 a0, .int .u8 a1, .int .u8 a2, .slice a3 n3 c3, .slice a4 n4 c4, .slice a5 n5 c5] w fun e w' => e = .returned (.bool true) ∧ Below w.heap.size w w' := by
  have R3 : Hid (Came w a3 n3 z3) := r3
  have R4 : Hid (Came w a4 n4 z4) := r4
  have R5 : Hid (Came w a5 n5 z5) := r5
  clear r3 r4 r5
  obtain ⟨m1, hm1⟩ : ∃ m1, a0 % 16 + 1 = m1 := ⟨_, rfl⟩
  obtain ⟨m2, hm2⟩ : ∃ m2, a1 % 70 + 1 = m2 := ⟨_, rfl⟩
  obtain ⟨mm, hmm⟩ : ∃ mm, m1 * m2 = mm := ⟨_, rfl⟩
  have b1 : 1 ≤ m1 ∧ m1 ≤ 16 := by omega
  have b2 : 1 ≤ m2 ∧ m2 ≤ 70 := by omega
  have b3 : 1 ≤ mm ∧ mm ≤ 1120 := by
    subst hmm
    exact ⟨by have := Int.mul_le_mul b1.1 b2.1 (by omega) (by omega); omega, by have := Int.mul_le_mul b1.2 b2.2 (by omega) (by omega); omega⟩
  go_enter Yba.func3, Yba.ntmps3
  go_wp2_with fail
  refine (words_any mm a3 n3 c3 z3 a2 w b3.1 (by omega) l3 h2 h2' R3.out).mono ?_
  rintro e w1 ⟨xs, rfl, hxl, hrow, hbel, hsz⟩
  obtain ⟨N, hN⟩ : ∃ N, xs.length = N := ⟨_, rfl⟩
  have hN2 : N ≤ 32 := by omega
  have hmk := run_make_row' (P := Yba.prog) 22 23 (.int .u64 0) 8 Yba.underlying22 Yba.info23 rfl .i64 .i64 N (by omega) (by omega)
  have hcp := copy_new w1 w.heap.size N xs hN hrow
  rw [hsz] at hcp
  have hmk4 := run_make_row' (P := Yba.prog) 22 23 (.int .u64 0) 8 Yba.underlying22 Yba.info23 rfl .i64 .i64 n4 (by omega) (by omega)
  have hmk5 := run_make_row' (P := Yba.prog) 22 23 (.int .u64 0) 8 Yba.underlying22 Yba.info23 rfl .i64 .i64 n5 (by omega) (by omega)
  go_wp2_with fail
  go_loopw [73] (fun i wr => ∃ (k : Nat) (rs : List Int), k ≤ n4 ∧ i = .int .i64 k ∧ Hid (rs.length = n4) ∧ Upto rs z4 m1 k ∧ M3 w wr xs rs) (fun i _ => n4 - (intOf i).toNat)
  case atStart => exact ⟨0, List.replicate n4 0, Nat.zero_le _, rfl, by simp [Hid], fun j hj => by omega, M3.start n4 hrow hbel hsz⟩
  case round =>
    clear hmk hmk4 hcp hrow hbel hsz
    obtain ⟨k, rs, hk, rfl, hrl, hup, hm⟩ := hrel
    by_cases hlt : k < n4
    · obtain ⟨b, off, ha, hc⟩ := R4.out.later hm.b (by omega)
      have hcx := hc k hlt
      have hpb := R4.out.range k hlt
      obtain ⟨p, hp⟩ : ∃ p, z4.getD k 0 = p := ⟨_, rfl⟩
      have HP : Hid (z4.getD k 0 = p) := hp
      rw [hp] at hcx hpb
      obtain ⟨q, hq⟩ : ∃ q : Int, p % m1 = q := ⟨_, rfl⟩
      have hcr := hm.r.cell k (by rw [hrl.out]; exact hlt)
      have hfr := hm.r.free k
      clear hc hp
      subst ha
      go_wp2
      go_roundw
      case rel => exact ⟨k + 1, rs.set k q, by omega, by go_num, by simpa [Hid] using hrl.out, hup.set (by rw [hrl.out]; exact hlt) HP.out hq, hm.set k q⟩
      case measure => simp [intOf]; omega
    · obtain rfl : n4 = k := by omega
      have hs3 := hm.s
      go_wp2_with fail
      obtain ⟨wo, rfl⟩ : ∃ wo : World, wo = wr := ⟨_, rfl⟩
      go_loopw [90] (fun i wr => ∃ (k : Nat) (cs : List Int), k ≤ n5 ∧ i = .int .i64 k ∧ Hid (cs.length = n5) ∧ Upto cs z5 m2 k ∧ M4 w wr xs rs cs) (fun i _ => n5 - (intOf i).toNat)
      case atStart => exact ⟨0, List.replicate n5 0, Nat.zero_le _, rfl, by simp [Hid], fun j hj => by omega, hm.next n5⟩
      case round =>
        clear hmk5 hs3 hm
        obtain ⟨k, cs, hk5, rfl, hcl, hcp, hm⟩ := hrel
        by_cases hlt5 : k < n5
        · obtain ⟨b, off, ha, hc⟩ := R5.out.later hm.b (by omega)
          have hcx := hc k hlt5
          have hpb := R5.out.range k hlt5
          obtain ⟨p, hp⟩ : ∃ p, z5.getD k 0 = p := ⟨_, rfl⟩
          have HP : Hid (z5.getD k 0 = p) := hp
          rw [hp] at hcx hpb
          obtain ⟨q, hq⟩ : ∃ q : Int, p % m2 = q := ⟨_, rfl⟩
          have hcr := hm.c.cell k (by rw [hcl.out]; exact hlt5)
          have hfr := hm.c.free k
          clear hc hp
          subst ha
          go_wp2
          go_roundw
          case rel => exact ⟨k + 1, cs.set k q, by omega, by go_num, by simpa [Hid] using hcl.out, hcp.set (by rw [hcl.out]; exact hlt5) HP.out hq, hm.set k q⟩
          case measure => simp [intOf]; omega
        · obtain rfl : n5 = k := by omega
          have hs4 := hm.s
          have hrs := (show Upto rs z4 m1 rs.length from hrl.out ▸ hup).all (by omega)
          have hcs := (show Upto cs z5 m2 cs.length from hcl.out ▸ hcp).all (by omega)
          have hins := inside_all (N := N) hmm (by rw [← hN]; exact hxl) hrs hcs
          have HRS : Hid (∀ r ∈ rs, 0 ≤ r ∧ r < m1) := hrs
          have HIN : Hid (∀ r ∈ rs, ∀ c ∈ cs, 0 ≤ c ∧ r * m2 + c < 64 * (N : Int)) := hins
          clear hrs hcs hins hxl
          go_wp2_with fail
          refine Calls.mono (allSet_plain (w.heap.size + 4) w.heap.size N (w.heap.size + 1 + 1) n4 (w.heap.size + 3) n5 xs rs cs m2 _ ?q1 ?q2 ?q3 (hm.x.alloc _) (hm.r.alloc _) (hm.c.alloc _) hN hrl.out hcl.out l4 l5 (by omega) (by omega) b2.2 (fun r h => by have := HRS.out r h; omega) HIN.out) ?_
          case q1 => rw [← hs4]; simp
          case q2 => rw [← hs4]; simp
          case q3 => rw [← hs4]; simp
          rintro e W ⟨rfl, nd, hW⟩
          have hm5 : M5 w W xs rs cs := by rw [hW]; exact hm.done _ nd
          clear hW hm hs4
          obtain ⟨g, hg⟩ : ∃ g, g = crossAll xs rs cs m2 n4 := ⟨_, rfl⟩
          have HG : Hid (g = crossAll xs rs cs m2 n4) := hg
          rw [← hg]
          clear hg
          go_wp2_with fail
          go_loop [25, 114] (fun x i => ∃ (k : Nat) (v : Bool), k ≤ n4 ∧ i = .int .i64 k ∧ x = .bool v ∧ Hid (v = crossAll xs rs cs m2 k)) (fun _ i => n4 - (intOf i).toNat)
          case atStart => exact ⟨0, true, Nat.zero_le _, rfl, rfl, rfl⟩
          case round =>
            obtain ⟨k, v, hk', rfl, rfl, hv⟩ := hrel
            by_cases hk4 : k < n4
            · have hcr := hm5.r.cell k (by rw [hrl.out]; exact hk4)
              have hrm := getD_mem (l := rs) (k := k) (by rw [hrl.out]; exact hk4)
              have hb := HRS.out _ hrm
              have HB : Hid (∀ c ∈ cs, 0 ≤ c ∧ rs.getD k 0 * m2 + c < 64 * (N : Int)) := HIN.out _ hrm
              have HT : Hid (crossAll xs rs cs m2 (k + 1) = (crossAll xs rs cs m2 k && rowAll xs cs (rs.getD k 0 * m2) cs.length)) := crossAll_succ _ _ _ _ _ (by rw [hrl.out]; exact hk4)
              generalize rs.getD k 0 = r at *
              have hrm2 := mulb hb.1 (by omega) (by omega) b2.2
              clear hrm
              go_wp2
              go_loop [25, 120] (fun x i => ∃ (j : Nat) (u : Bool), j ≤ n5 ∧ i = .int .i64 j ∧ x = .bool u ∧ Hid (u = (crossAll xs rs cs m2 k && rowAll xs cs (r * m2) j))) (fun _ i => n5 - (intOf i).toNat)
              case atStart => exact ⟨0, v, Nat.zero_le _, rfl, rfl, by unfold Hid; rw [hv.out]; simp [rowAll]⟩
              case round =>
                obtain ⟨j, u, hj, rfl, rfl, hu⟩ := hrel
                by_cases hj5 : j < n5
                · have hcc := hm5.c.cell j (by rw [hcl.out]; exact hj5)
                  have hcm := getD_mem (l := cs) (k := j) (by rw [hcl.out]; exact hj5)
                  have hbc := HB.out _ hcm
                  have HS : Hid (rowAll xs cs (r * m2) (j + 1) = (rowAll xs cs (r * m2) j && bitT xs (r * m2 + cs.getD j 0))) := rowAll_succ _ _ _ _ (by rw [hcl.out]; exact hj5)
                  generalize cs.getD j 0 = c at *
                  clear hcm
                  have HX := bit_any w.heap.size N N xs (r * m2 + c) W (by omega) (by omega) (by omega) hN hm5.x
                  have HY : Hid (Calls Yba.prog 10 #[.slice (some ⟨w.heap.size, 0, none⟩) N N, .int .u64 (r * m2 + c)] W fun e w' => e = .returned (.bool (bitT xs (r * m2 + c))) ∧ W = w') := HX
                  clear HX
                  cases hbt : bitT xs (r * m2 + c) with
                  | true =>
                    have HU : Hid (u = (crossAll xs rs cs m2 k && rowAll xs cs (r * m2) (j + 1))) := by unfold Hid; rw [hu.out, HS.out, hbt]; simp
                    rw [hbt] at HY
                    clear hbt hu HS
                    go_wp2_with (go_at_call 10; refine HY.out.mono ?_; rintro e w' ⟨rfl, rfl⟩)
                    go_round
                    case rel => exact ⟨j + 1, u, by omega, by go_num, rfl, HU⟩
                    case measure => simp [intOf]; omega
                  | false =>
                    have HU : Hid (false = (crossAll xs rs cs m2 k && rowAll xs cs (r * m2) (j + 1))) := by unfold Hid; rw [HS.out, hbt]; simp
                    rw [hbt] at HY
                    clear hbt hu HS
                    go_wp2_with (go_at_call 10; refine HY.out.mono ?_; rintro e w' ⟨rfl, rfl⟩)
                    go_round
                    case rel => exact ⟨j + 1, false, by omega, by go_num, rfl, HU⟩
                    case measure => simp [intOf]; omega
                · obtain rfl : n5 = j := by omega
                  have HU : Hid (u = crossAll xs rs cs m2 (k + 1)) := by unfold Hid; rw [HT.out, hu.out, hcl.out]
                  clear hu HT
                  go_wp2
                  go_round
                  case rel => exact ⟨k + 1, u, by omega, by go_num, rfl, HU⟩
                  case measure => simp [intOf]; omega
            · obtain rfl : n4 = k := by omega
              obtain rfl : g = v := by rw [hv.out, HG.out]
              go_wp2_with fail
              clear hv HG HIN HRS
              go_loopw [139] (fun i wr => ∃ (k : Nat), k ≤ N ∧ i = .int .i64 k ∧ M5 w wr xs rs cs) (fun i _ => N - (intOf i).toNat)
              case atStart => exact ⟨0, Nat.zero_le _, rfl, hm5⟩
              case round =>
                clear hm5
                obtain ⟨k, hkN, rfl, hm5⟩ := hrel
                by_cases hlN : k < N
                · have hc1 := hm5.x.cell k (by omega)
                  have hc2 := hm5.k.cell k (by omega)
                  generalize xs.getD k 0 = v at *
                  have hlN' : (k : Int) < (N : Int) := by omega
                  go_wp2
                  go_quiet (fail)
                  go_wp2
                  go_roundw
                  case rel => exact ⟨k + 1, by omega, by go_num, hm5.drewN _⟩
                  case measure => simp [intOf]; omega
                · obtain rfl : N = k := by omega
                  go_wp2_with fail
                  obtain ⟨wo2, rfl⟩ : ∃ wo : World, wo = wr := ⟨_, rfl⟩
                  go_loopw [154] (fun i wr => ∃ (k : Nat), k ≤ n4 ∧ i = .int .i64 k ∧ M5 w wr xs rs cs) (fun i _ => n4 - (intOf i).toNat)
                  case atStart => exact ⟨0, Nat.zero_le _, rfl, hm5⟩
                  case round =>
                    clear hm5
                    obtain ⟨k, hk4', rfl, hm5⟩ := hrel
                    by_cases hl4 : k < n4
                    · obtain ⟨b, off, ha, hc⟩ := R4.out.later hm5.b (by omega)
                      have hcx := hc k hl4
                      have hpb := R4.out.range k hl4
                      have hcr := hm5.r.cell k (by rw [hrl.out]; exact hl4)
                      rw [hup k hl4] at hcr
                      generalize z4.getD k 0 = p at *
                      obtain ⟨q, hq⟩ : ∃ q : Int, p % m1 = q := ⟨_, rfl⟩
                      rw [hq] at hcr
                      clear hc
                      subst ha
                      have hl4' : (k : Int) < (n4 : Int) := by omega
                      go_wp2
                      go_quiet (fail)
                      go_wp2
                      go_roundw
                      case rel => exact ⟨k + 1, by omega, by go_num, hm5.drewN _⟩
                      case measure => simp [intOf]; omega
                    · obtain rfl : n4 = k := by omega
                      go_wp2_with fail
                      obtain ⟨wo3, rfl⟩ : ∃ wo : World, wo = wr := ⟨_, rfl⟩
                      go_loopw [170] (fun i wr => ∃ (k : Nat), k ≤ n5 ∧ i = .int .i64 k ∧ M5 w wr xs rs cs) (fun i _ => n5 - (intOf i).toNat)
                      case atStart => exact ⟨0, Nat.zero_le _, rfl, hm5⟩
                      case round =>
                        clear hm5
                        obtain ⟨k, hk5', rfl, hm5⟩ := hrel
                        by_cases hl5 : k < n5
                        · obtain ⟨b, off, ha, hc⟩ := R5.out.later hm5.b (by omega)
                          have hcx := hc k hl5
                          have hpb := R5.out.range k hl5
                          have hcr := hm5.c.cell k (by rw [hcl.out]; exact hl5)
                          rw [hcp k hl5] at hcr
                          generalize z5.getD k 0 = p at *
                          obtain ⟨q, hq⟩ : ∃ q : Int, p % m2 = q := ⟨_, rfl⟩
                          rw [hq] at hcr
                          clear hc
                          subst ha
                          have hl5' : (k : Int) < (n5 : Int) := by omega
                          go_wp2
                          go_quiet (fail)
                          go_wp2
                          go_roundw
                          case rel => exact ⟨k + 1, by omega, by go_num, hm5.drewN _⟩
                          case measure => simp [intOf]; omega
                        · go_wp2
                          go_ret
                          exact ⟨rfl, hm5.b⟩

set_option maxRecDepth 100000 in
set_option maxHeartbeats 400000 in
/-- Too long: nothing is looked at. -/
theorem plain_long (a0 a1 a2 : Int) (a3 a4 a5 : Option Addr) (n3 n4 n5 c3 c4 c5 : Nat) (w : World) (h : 1024 < n3 ∨ 1024 < n4 ∨ 1024 < n5) (m3 : n3 ≤ maxLen) (m4 : n4 ≤ maxLen) (m5 : n5 ≤ maxLen) :
    Calls Yba.prog 3 #[.int .u8 a0, .int .u8 a1, .int .u8 a2, .slice a3 n3 c3, .slice a4 n4 c4, .slice a5 n5 c5] w fun e w' => e = .returned (.bool true) ∧ Below w.heap.size w w' := by
  unfold maxLen at m3 m4 m5
  by_cases h3 : 1024 < n3
  · go_enter Yba.func3, Yba.ntmps3
    go_wp2
    go_ret
    exact ⟨rfl, Below.refl _ _⟩
  · by_cases h4 : 1024 < n4
    · go_enter Yba.func3, Yba.ntmps3
      go_wp2
      go_ret
      exact ⟨rfl, Below.refl _ _⟩
    · have h5 : 1024 < n5 := by omega
      go_enter Yba.func3, Yba.ntmps3
      go_wp2
      go_ret
      exact ⟨rfl, Below.refl _ _⟩
#print axioms plain_walk
#print axioms plain_long
end Go.Proofs.Ybulkdaju
