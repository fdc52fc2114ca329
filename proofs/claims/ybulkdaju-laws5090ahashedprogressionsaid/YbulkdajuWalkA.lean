/-
  Walks shared by the laws of zz_law_s5090a.go: zzs5090abit, crossingsSet, allSet (plain), zzs5090awords.
-/
import Derived.Test.YbulkdajuBase
import Derived.Deep.QuietTactic
import Derived.BigQuiet
import Derived.RegionTactic
import Derived.LoopTactic
import Derived.Deep.LoopGhost
import Derived.Deep.OwnRows
namespace Go.Proofs.Ybulkdaju
open Go.RowKit

theorem Yba.info23 : (Yba.prog.info? 23).map (fun i => (i.zero, i.size, i.bytes)) = some (some (.int .u64 0), 1, 8) := by kernel_rfl
set_option maxHeartbeats 400000 in
theorem bit_any (b n c : Nat) (xs : List Int) (i : Int) (w : World) (h0 : 0 ≤ i) (h1 : i < 64 * n) (h2 : n ≤ 1000000) (hl : xs.length = n) (hr : RowIs w b xs) :
    Calls Yba.prog 10 #[.slice (some ⟨b, 0, none⟩) n c, .int .u64 i] w fun e w' => e = .returned (.bool (bitT xs i)) ∧ w = w' := by
  have hc := hr.cell (i / 64).toNat (by omega)
  clear hl hr
  go_enter Yba.func10, Yba.ntmps10
  go_wp2
  go_ret
  exact ⟨rfl, rfl⟩

set_option maxHeartbeats 400000 in
theorem cross_any (bf bw nw br lr bc lc : Nat) (xs rs cs : List Int) (m2 : Int) (w : World)
    (h4 : w.cell? ⟨bf, 11, none⟩ = some (.slice (some ⟨bw, 0, none⟩) nw nw)) (h2 : w.cell? ⟨bf, 2, none⟩ = some (.int .u64 m2))
    (hw : RowIs w bw xs) (hr : RowIs w br rs) (hc : RowIs w bc cs) (lw : xs.length = nw) (llr : rs.length = lr) (llc : cs.length = lc)
    (hlr : lr ≤ 1024) (hlc : lc ≤ 1024) (hnw : nw ≤ 1024)
    (hm2 : 0 ≤ m2) (hm2' : m2 ≤ 70) (hrs : ∀ r ∈ rs, 0 ≤ r ∧ r ≤ 15)
    (hin : ∀ r ∈ rs, ∀ c ∈ cs, 0 ≤ c ∧ r * m2 + c < 64 * nw) :
    Calls Yba.prog 18 #[.pointer (some ⟨bf, 0, none⟩), .slice (some ⟨br, 0, none⟩) lr lr, .slice (some ⟨bc, 0, none⟩) lc lc] w fun e w' => e = .returned (.bool (crossAll xs rs cs m2 lr)) ∧ ∃ n, w' = w.drewN n := by
  have HRS : Hid (∀ r ∈ rs, 0 ≤ r ∧ r ≤ 15) := hrs
  have HIN : Hid (∀ r ∈ rs, ∀ c ∈ cs, 0 ≤ c ∧ r * m2 + c < 64 * nw) := hin
  clear hin hrs
  go_enter Yba.func18, Yba.ntmps18
  go_wp2
  go_quiet (fail)
  clear h4 h2
  go_wp2
  go_loop [27] (fun i => ∃ k : Nat, k ≤ lr ∧ i = .int .i64 k ∧ Hid (crossAll xs rs cs m2 k = true)) (fun i => lr - (intOf i).toNat)
  case atStart => exact ⟨0, Nat.zero_le _, rfl, rfl⟩
  case round =>
    obtain ⟨k, hk, rfl, hall⟩ := hrel
    by_cases hlt : k < lr
    · have hcr := hr.cell k (by omega)
      have hrm := getD_mem (l := rs) (k := k) (by omega)
      have hb := HRS.out _ hrm
      have HB : Hid (∀ c ∈ cs, 0 ≤ c ∧ rs.getD k 0 * m2 + c < 64 * nw) := HIN.out _ hrm
      have HF : Hid (rowAll xs cs (rs.getD k 0 * m2) cs.length = false → crossAll xs rs cs m2 rs.length = false) := crossAll_false (by omega)
      have HT : Hid (crossAll xs rs cs m2 (k + 1) = (crossAll xs rs cs m2 k && rowAll xs cs (rs.getD k 0 * m2) cs.length)) := crossAll_succ _ _ _ _ _ (by omega)
      generalize rs.getD k 0 = r at *
      have hrm2 := mulb hb.1 hb.2 hm2 hm2'
      clear hrm
      go_wp2
      go_loop [12, 36] (fun a i => ∃ (j : Nat) (x : Int), j ≤ lc ∧ i = .int .i64 j ∧ a = .int .u64 x ∧ Hid (lowB x = rowAll xs cs (r * m2) j)) (fun _ i => lc - (intOf i).toNat)
      case atStart => exact ⟨0, 1, Nat.zero_le _, rfl, rfl, rfl⟩
      case round =>
        obtain ⟨j, x, hj, rfl, rfl, hx⟩ := hrel
        by_cases hjl : j < lc
        · have hcc := hc.cell j (by omega)
          have hcm := getD_mem (l := cs) (k := j) (by omega)
          have hbc := HB.out _ hcm
          have HS : Hid (rowAll xs cs (r * m2) (j + 1) = (rowAll xs cs (r * m2) j && bitT xs (r * m2 + cs.getD j 0))) := rowAll_succ _ _ _ _ (by omega)
          generalize cs.getD j 0 = c at *
          have hcw := hw.cell ((r * m2 + c) / 64).toNat (by omega)
          clear hcm
          go_wp2
          go_round
          case rel => exact ⟨j + 1, _, by omega, by go_num, rfl, by unfold Hid; rw [HS.out, lowB_and, hx.out, bitT_low]⟩
          case measure => simp [intOf]; omega
        · have hje : j = lc := by omega
          subst hje
          have hx' := hx.out
          rw [← llc] at hx'
          cases hlow : lowB x with
          | true =>
            have ht : (bits .and .u64 x 1 == 0) = false := by rw [lowB_zero, hlow]; rfl
            have HT2 : Hid (crossAll xs rs cs m2 (k + 1) = true) := by unfold Hid; rw [HT.out, hall.out, ← hx', hlow]; rfl
            clear hx hx' hlow HT HF
            go_wp2
            go_round
            case rel => exact ⟨k + 1, by omega, by go_num, HT2⟩
            case measure => simp [intOf]; omega
          | false =>
            have ht : (bits .and .u64 x 1 == 0) = true := by rw [lowB_zero, hlow]; rfl
            have HT2 : Hid (crossAll xs rs cs m2 rs.length = false) := HF.out (by rw [← hx', hlow])
            clear hx hx' hlow HT HF
            go_wp2
            go_ret
            exact ⟨ret_bool (by rw [← llr, HT2.out]), nq, rfl⟩
    · have hke : k = lr := by omega
      subst hke
      go_wp2
      go_ret
      exact ⟨ret_bool hall.out.symm, nq, rfl⟩
set_option maxHeartbeats 400000 in
theorem allSet_plain (bf bw nw br lr bc lc : Nat) (xs rs cs : List Int) (m2 : Int) (w : World)
    (h0 : w.cell? ⟨bf, 0, none⟩ = some (.int .i64 1))
    (h4 : w.cell? ⟨bf, 11, none⟩ = some (.slice (some ⟨bw, 0, none⟩) nw nw)) (h2 : w.cell? ⟨bf, 2, none⟩ = some (.int .u64 m2))
    (hw : RowIs w bw xs) (hr : RowIs w br rs) (hc : RowIs w bc cs) (lw : xs.length = nw) (llr : rs.length = lr) (llc : cs.length = lc)
    (hlr : lr ≤ 1024) (hlc : lc ≤ 1024) (hnw : nw ≤ 1024)
    (hm2 : 0 ≤ m2) (hm2' : m2 ≤ 70) (hrs : ∀ r ∈ rs, 0 ≤ r ∧ r ≤ 15)
    (hin : ∀ r ∈ rs, ∀ c ∈ cs, 0 ≤ c ∧ r * m2 + c < 64 * nw) :
    Calls Yba.prog 9 #[.pointer (some ⟨bf, 0, none⟩), .slice (some ⟨br, 0, none⟩) lr lr, .slice (some ⟨bc, 0, none⟩) lc lc] w fun e w' => e = .returned (.bool (crossAll xs rs cs m2 lr)) ∧ ∃ n, w' = w.drewN n := by
  have H := cross_any bf bw nw br lr bc lc xs rs cs m2 w h4 h2 hw hr hc lw llr llc hlr hlc hnw hm2 hm2' hrs hin
  have HH : Hid (Calls Yba.prog 18 #[.pointer (some ⟨bf, 0, none⟩), .slice (some ⟨br, 0, none⟩) lr lr, .slice (some ⟨bc, 0, none⟩) lc lc] w fun e w' => e = .returned (.bool (crossAll xs rs cs m2 lr)) ∧ ∃ n, w' = w.drewN n) := H
  clear H hin hrs lw llr llc h4 h2
  go_enter Yba.func9, Yba.ntmps9
  go_wp2_with (go_at_call 18; refine HH.out.mono ?_; rintro e w' ⟨rfl, n, rfl⟩)
  go_ret
  exact ⟨rfl, n, rfl⟩

set_option maxHeartbeats 400000 in
theorem words_even (n : Int) (a : Option Addr) (len cap : Nat) (zs : List Int) (fill : Int) (w : World) (hn : 1 ≤ n) (hn' : n ≤ 2000) (hlen : len ≤ 1024) (hf : (fill % 2 == 0) = true) (hf0 : 0 ≤ fill) (hf1 : fill ≤ 255)
    (hz : Came w a len zs) : Calls Yba.prog 8 #[.int .u64 n, .slice a len cap, .int .u8 fill] w (Made w n) := by
  obtain ⟨N, hN⟩ : ∃ N : Nat, (n + 63) / 64 = (N : Int) := ⟨((n + 63) / 64).toNat, by omega⟩
  have hN1 : 1 ≤ N := by omega
  have hN2 : N ≤ 32 := by omega
  have hmk := run_make_row' (P := Yba.prog) 22 23 (.int .u64 0) 8 Yba.underlying22 Yba.info23 rfl .u64 .u64 N (by omega) (by omega)
  have HZ : Hid (Came w a len zs) := hz
  clear hz
  by_cases hl : 0 < len
  · go_enter Yba.func8, Yba.ntmps8
    go_wp2
    go_loopw [27] (fun i wr => ∃ (k : Nat), k ≤ N ∧ i = .int .i64 k ∧ At w N wr) (fun i _ => N - (intOf i).toNat)
    case atStart => exact ⟨0, Nat.zero_le _, rfl, At.start w N⟩
    case round =>
      obtain ⟨k, hk, rfl, hat⟩ := hrel
      by_cases hlt : k < N
      · obtain ⟨q, hq, hql⟩ : ∃ q : Nat, (k : Int) % (len : Int) = q ∧ q < len := ⟨k % len, by omega, Nat.mod_lt _ hl⟩
        obtain ⟨b, off, ha, hc⟩ := hat.came HZ.out hl
        have hcx := hc q hql
        obtain ⟨v, hcr⟩ := hat.cell k hlt
        have hfr := hat.free k
        clear hc
        subst ha
        go_wp2
        go_roundw
        case rel => exact ⟨k + 1, by omega, by go_num, hat.set k _⟩
        case measure => simp [intOf]; omega
      · go_wp2
        go_ret
        exact hat.made hN
  · go_enter Yba.func8, Yba.ntmps8
    go_wp2
    go_ret
    exact (At.start w N).made hN

set_option maxHeartbeats 400000 in
theorem words_odd (n : Int) (a : Option Addr) (len cap : Nat) (zs : List Int) (fill : Int) (w : World) (hn : 1 ≤ n) (hn' : n ≤ 2000) (hlen : len ≤ 1024) (hf : (fill % 2 == 0) = false) (hf0 : 0 ≤ fill) (hf1 : fill ≤ 255)
    (hz : Came w a len zs) : Calls Yba.prog 8 #[.int .u64 n, .slice a len cap, .int .u8 fill] w (Made w n) := by
  obtain ⟨N, hN⟩ : ∃ N : Nat, (n + 63) / 64 = (N : Int) := ⟨((n + 63) / 64).toNat, by omega⟩
  have hN1 : 1 ≤ N := by omega
  have hN2 : N ≤ 32 := by omega
  have hmk := run_make_row' (P := Yba.prog) 22 23 (.int .u64 0) 8 Yba.underlying22 Yba.info23 rfl .u64 .u64 N (by omega) (by omega)
  have HZ : Hid (Came w a len zs) := hz
  clear hz
  go_enter Yba.func8, Yba.ntmps8
  go_wp2
  go_loopw [44] (fun i wr => ∃ (k : Nat), k ≤ N ∧ i = .int .i64 k ∧ At w N wr) (fun i _ => N - (intOf i).toNat)
  case atStart => exact ⟨0, Nat.zero_le _, rfl, At.start w N⟩
  case round =>
    obtain ⟨k, hk, rfl, hat⟩ := hrel
    by_cases hlt : k < N
    · obtain ⟨v, hcr⟩ := hat.cell k hlt
      have hfr := hat.free k
      go_wp2
      go_roundw
      case rel => exact ⟨k + 1, by omega, by go_num, hat.set k _⟩
      case measure => simp [intOf]; omega
    · clear hmk
      go_wp2
      obtain ⟨wo, rfl⟩ : ∃ wo : World, wo = wr := ⟨_, rfl⟩
      go_loopw [53] (fun i wr => ∃ (k : Nat), k ≤ len ∧ i = .int .i64 k ∧ At w N wr) (fun i _ => len - (intOf i).toNat)
      case atStart => exact ⟨0, Nat.zero_le _, rfl, hat⟩
      case round =>
        clear hat
        obtain ⟨j, hj, rfl, hat⟩ := hrel
        by_cases hjl : j < len
        · obtain ⟨b, off, ha, hc⟩ := hat.came HZ.out (by omega)
          have hcx := hc j hjl
          have hzb := HZ.out.2.1 _ (getD_mem (l := zs) (k := j) (by have := HZ.out.1; omega))
          generalize zs.getD j 0 = p at *
          obtain ⟨q, hq, hq0, hql⟩ : ∃ q : Int, p % n = q ∧ 0 ≤ q ∧ q < n := ⟨p % n, rfl, Int.emod_nonneg _ (by omega), Int.emod_lt_of_pos _ (by omega)⟩
          obtain ⟨v, hcr⟩ := hat.cell (q / 64).toNat (by omega)
          have hfr := hat.free (q / 64).toNat
          clear hc
          subst ha
          go_wp2
          go_roundw
          case rel => exact ⟨j + 1, by omega, by go_num, hat.set _ _⟩
          case measure => simp [intOf]; omega
        · go_wp2
          go_ret
          exact hat.made hN
#print axioms words_odd
end Go.Proofs.Ybulkdaju
