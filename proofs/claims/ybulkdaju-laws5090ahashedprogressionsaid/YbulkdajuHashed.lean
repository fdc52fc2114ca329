/-
  LawS5090AHashedProgression (function 4), walked.
-/
import Derived.Test.YbulkdajuWalkA
import Derived.Test.YbulkdajuMul
namespace Go.Proofs.Ybulkdaju
open Go.RowKit

/-- The progression's values, and whether its first bits are all set. -/
def atN (s t : Int) : Nat → Int
  | 0 => s
  | n + 1 => IntKind.u64.wrap (atN s t n + t)
theorem atN_bd {s : Int} (t : Int) (h0 : 0 ≤ s) (h1 : s ≤ 18446744073709551615) : ∀ n, 0 ≤ atN s t n ∧ atN s t n ≤ 18446744073709551615
  | 0 => ⟨h0, h1⟩
  | n + 1 => by unfold atN; rw [IntKind.wrap_u64]; omega
def progAll (xs : List Int) (m s t : Int) : Nat → Bool
  | 0 => true
  | n + 1 => progAll xs m s t n && bitT xs (hi64 (atN s t n) m)

set_option maxHeartbeats 400000 in
theorem hashedBit_any (x y : Int) (hx : 0 ≤ x) (hx' : x ≤ 18446744073709551615) (hy : 0 ≤ y) (hy' : y ≤ 18446744073709551615) (w : World) :
    Calls Yba.prog 26 #[.int .u64 x, .int .u64 y] w fun e w' => e = .returned (.int .u64 (hi64 x y)) ∧ w = w' := by
  go_enter Yba.func26, Yba.ntmps26
  go_wp2_with (go_at_call 11; refine (mul64_any _ _ hx hx' hy hy' _).mono ?_; rintro e w' ⟨rfl, rfl⟩)
  go_ret
  exact ⟨rfl, rfl⟩

set_option maxHeartbeats 400000 in
theorem prog_any (bf bw nw : Nat) (xs : List Int) (K : Nat) (m s t : Int) (w : World)
    (h4 : w.cell? ⟨bf, 11, none⟩ = some (.slice (some ⟨bw, 0, none⟩) nw nw)) (h2 : w.cell? ⟨bf, 2, none⟩ = some (.int .u64 m)) (hk : w.cell? ⟨bf, 4, none⟩ = some (.int .u64 K))
    (hw : RowIs w bw xs) (lw : xs.length = nw) (_hnw : nw ≤ 1024) (hK : K ≤ 300)
    (hm : 1 ≤ m) (hm' : m ≤ 2000) (hmn : m ≤ 64 * nw) (hs : 0 ≤ s) (hs' : s ≤ 18446744073709551615) :
    Calls Yba.prog 17 #[.pointer (some ⟨bf, 0, none⟩), .int .u64 s, .int .u64 t] w fun e w' => e = .returned (.bool (progAll xs m s t K)) ∧ ∃ n, w' = w.drewN n := by
  go_enter Yba.func17, Yba.ntmps17
  go_wp2
  go_quiet (fail)
  go_wp2
  clear h4 h2 hk
  go_loop [1, 9, 10] (fun x a i => ∃ (j : Nat) (u : Int), j ≤ K ∧ x = .int .u64 (atN s t j) ∧ i = .int .u64 ((K : Int) - j) ∧ a = .int .u64 u ∧ Hid (lowB u = progAll xs m s t j)) (fun _ _ i => (intOf i).toNat)
  case atStart => exact ⟨0, 1, Nat.zero_le _, rfl, by simp, rfl, rfl⟩
  case round =>
    obtain ⟨j, u, hj, rfl, rfl, rfl, hu⟩ := hrel
    by_cases hlt : j < K
    · have hat := atN_bd t hs hs' j
      have HA : Hid (atN s t (j + 1) = IntKind.u64.wrap (atN s t j + t)) := rfl
      have HP : Hid (progAll xs m s t (j + 1) = (progAll xs m s t j && bitT xs (hi64 (atN s t j) m))) := rfl
      generalize atN s t j = x at *
      have hb := hi64_lt hat.2 (show 0 < m by omega)
      have hb0 := (hi64_bd hat.1 hat.2 (show 0 ≤ m by omega) (by omega)).1
      have HC := hashedBit_any x m hat.1 hat.2 (by omega) (by omega) (w.drewN nq)
      have HH : Hid (Calls Yba.prog 26 #[.int .u64 x, .int .u64 m] (w.drewN nq) fun e w' => e = .returned (.int .u64 (hi64 x m)) ∧ w.drewN nq = w') := HC
      clear HC
      generalize hi64 x m = q at *
      have hcw := hw.cell (q / 64).toNat (by omega)
      have hgt : (0 : Int) < (K : Int) - j := by omega
      go_wp2_with (go_at_call 26; refine HH.out.mono ?_; rintro e w' ⟨rfl, rfl⟩)
      go_round
      case rel => exact ⟨j + 1, _, by omega, by rw [HA.out], by go_num, rfl, by unfold Hid; rw [HP.out, lowB_and, hu.out, bitT_low]⟩
      case measure => simp [intOf]; omega
    · obtain rfl : K = j := by omega
      go_wp2
      go_ret
      exact ⟨ret_bool hu.out, nq, rfl⟩

set_option maxHeartbeats 400000 in
theorem allSet_hashed (bf bw nw br bc : Nat) (xs : List Int) (K : Nat) (m a b c d : Int) (w : World)
    (h0 : w.cell? ⟨bf, 0, none⟩ = some (.int .i64 4))
    (h4 : w.cell? ⟨bf, 11, none⟩ = some (.slice (some ⟨bw, 0, none⟩) nw nw)) (h2 : w.cell? ⟨bf, 2, none⟩ = some (.int .u64 m)) (hk : w.cell? ⟨bf, 4, none⟩ = some (.int .u64 K))
    (hr0 : w.cell? ⟨br, 0, none⟩ = some (.int .u64 a)) (hr1 : w.cell? ⟨br, 1, none⟩ = some (.int .u64 b)) (hc0 : w.cell? ⟨bc, 0, none⟩ = some (.int .u64 c)) (hc1 : w.cell? ⟨bc, 1, none⟩ = some (.int .u64 d))
    (hw : RowIs w bw xs) (lw : xs.length = nw) (hnw : nw ≤ 1024) (hK : K ≤ 300)
    (hm : 1 ≤ m) (hm' : m ≤ 2000) (hmn : m ≤ 64 * nw) :
    Calls Yba.prog 9 #[.pointer (some ⟨bf, 0, none⟩), .slice (some ⟨br, 0, none⟩) 2 2, .slice (some ⟨bc, 0, none⟩) 2 2] w fun e w' => e = .returned (.bool (progAll xs m (IntKind.u64.wrap (a + c)) (IntKind.u64.wrap (b + d)) K)) ∧ ∃ n, w' = w.drewN n := by
  have hwr : 0 ≤ IntKind.u64.wrap (a + c) ∧ IntKind.u64.wrap (a + c) ≤ 18446744073709551615 := by rw [IntKind.wrap_u64]; omega
  go_enter Yba.func9, Yba.ntmps9
  go_wp2
  go_quiet ((go_at_call 17; refine Calls.quiet_of (prog_any bf bw nw xs K m _ _ _ h4 h2 hk (hw.drewN _) lw hnw hK hm hm' hmn hwr.1 hwr.2)))
  go_wp2
  go_ret
  exact ⟨rfl, nq, rfl⟩

theorem words_all (n : Int) (a : Option Addr) (len cap : Nat) (zs : List Int) (fill : Int) (w : World) (hn : 1 ≤ n) (hn' : n ≤ 2000) (hlen : len ≤ 1024) (hf0 : 0 ≤ fill) (hf1 : fill ≤ 255)
    (hz : Came w a len zs) : Calls Yba.prog 8 #[.int .u64 n, .slice a len cap, .int .u8 fill] w (Made w n) := by
  cases hf : (fill % 2 == 0) with
  | true => exact words_even n a len cap zs fill w hn hn' hlen hf hf0 hf1 hz
  | false => exact words_odd n a len cap zs fill w hn hn' hlen hf hf0 hf1 hz
/-- Three new blocks, one behind the other. -/
theorem three (w : World) (A B C : Array Value) (ta tb tc : TypeId) :
    (∀ k, (((w.alloc (.cells A ta)).alloc (.cells B tb)).alloc (.cells C tc)).cell? ⟨w.heap.size, k, none⟩ = A[k]?) ∧
    (∀ k, (((w.alloc (.cells A ta)).alloc (.cells B tb)).alloc (.cells C tc)).cell? ⟨w.heap.size + 1, k, none⟩ = B[k]?) ∧
    (∀ k, (((w.alloc (.cells A ta)).alloc (.cells B tb)).alloc (.cells C tc)).cell? ⟨w.heap.size + 1 + 1, k, none⟩ = C[k]?) := by
  refine ⟨fun k => cell_of_row _ _ k A ta (0, 0) ?_, fun k => cell_of_row _ _ k B tb (0, 0) ?_, fun k => cell_of_row _ _ k C tc (0, 0) ?_⟩
  all_goals
    show (((w.heap.push _).push _).push _)[_]? = _
    simp only [Array.getElem?_push, Array.size_push]
  · rw [if_neg (by omega), if_neg (by omega), if_pos trivial]
  · rw [if_neg (by omega), if_pos trivial]
  · rw [if_pos trivial]
set_option maxRecDepth 100000 in
set_option maxHeartbeats 400000 in
theorem hashed_walk (a0 a1 a b c d a6 : Int) (a7 : Option Addr) (n7 c7 : Nat) (z7 : List Int) (w : World) (h0 : 0 ≤ a0) (h0' : a0 ≤ 65535) (h1 : 0 ≤ a1) (h1' : a1 ≤ 65535) (h6 : 0 ≤ a6) (h6' : a6 ≤ 255)
    (r7 : Came w a7 n7 z7) (l7 : n7 ≤ 1024) :
    Calls Yba.prog 4 #[.int .u16 a0, .int .u16 a1, .int .u64 a, .int .u64 b, .int .u64 c, .int .u64 d, .int .u8 a6, .slice a7 n7 c7] w fun e w' => e = .returned (.bool true) ∧ Below w.heap.size w w' := by
  have R7 : Hid (Came w a7 n7 z7) := r7
  clear r7
  obtain ⟨m, hm⟩ : ∃ m, a0 % 2000 + 1 = m := ⟨_, rfl⟩
  obtain ⟨K, hK⟩ : ∃ K : Nat, a1 % 300 = (K : Int) := ⟨(a1 % 300).toNat, by omega⟩
  have b1 : 1 ≤ m ∧ m ≤ 2000 := by omega
  have b2 : K ≤ 300 := by omega
  go_enter Yba.func4, Yba.ntmps4
  go_wp2_with fail
  refine (words_all m a7 n7 c7 z7 a6 w b1.1 b1.2 l7 h6 h6' R7.out).mono ?_
  rintro e w1 ⟨xs, rfl, hxl, hrow, hbel, hsz⟩
  obtain ⟨N, hN⟩ : ∃ N, xs.length = N := ⟨_, rfl⟩
  have hN2 : N ≤ 32 := by omega
  have hN3 : m ≤ 64 * N := by omega
  clear hxl
  go_wp2_with fail
  have HW := three w1 #[.int .i64 4, .int .u64 1, .int .u64 m, .int .u64 K, .int .u64 K, .int .u64 1, .int .u64 0, .int .u64 0, .int .u64 0, .int .u64 0, .int .u64 0, .slice (some ⟨w.heap.size, 0, none⟩) N N, .int .u64 0, .int .u64 0, .int .u64 0, .int .u64 0, .bool false, .int .u64 0, .int .u64 0, .int .u64 0, .int .u64 0, .bool false, .bool false, .pointer none, .int .u64 0, .pointer none, .int .u64 0, .nilFunc] #[.int .u64 a, .int .u64 b] #[.int .u64 c, .int .u64 d] 40 23 23
  have HR : RowIs (((w1.alloc (.cells #[.int .i64 4, .int .u64 1, .int .u64 m, .int .u64 K, .int .u64 K, .int .u64 1, .int .u64 0, .int .u64 0, .int .u64 0, .int .u64 0, .int .u64 0, .slice (some ⟨w.heap.size, 0, none⟩) N N, .int .u64 0, .int .u64 0, .int .u64 0, .int .u64 0, .bool false, .int .u64 0, .int .u64 0, .int .u64 0, .int .u64 0, .bool false, .bool false, .pointer none, .int .u64 0, .pointer none, .int .u64 0, .nilFunc] 40)).alloc (.cells #[.int .u64 a, .int .u64 b] 23)).alloc (.cells #[.int .u64 c, .int .u64 d] 23)) w.heap.size xs := ((hrow.alloc _).alloc _).alloc _
  have HB : Below w.heap.size w (((w1.alloc (.cells #[.int .i64 4, .int .u64 1, .int .u64 m, .int .u64 K, .int .u64 K, .int .u64 1, .int .u64 0, .int .u64 0, .int .u64 0, .int .u64 0, .int .u64 0, .slice (some ⟨w.heap.size, 0, none⟩) N N, .int .u64 0, .int .u64 0, .int .u64 0, .int .u64 0, .bool false, .int .u64 0, .int .u64 0, .int .u64 0, .int .u64 0, .bool false, .bool false, .pointer none, .int .u64 0, .pointer none, .int .u64 0, .nilFunc] 40)).alloc (.cells #[.int .u64 a, .int .u64 b] 23)).alloc (.cells #[.int .u64 c, .int .u64 d] 23)) := ((hbel.alloc (by omega) _).alloc (by simp; omega) _).alloc (by simp; omega) _
  rw [hsz] at HW
  generalize ((w1.alloc _).alloc _).alloc _ = W at *
  obtain ⟨HA, HB', HC⟩ := HW
  have q0 := HA 0
  have q2 := HA 2
  have q4 := HA 4
  have q11 := HA 11
  have r0 := HB' 0
  have r1 := HB' 1
  have s0 := HC 0
  have s1 := HC 1
  clear HA HB' HC hrow hbel hsz
  simp at q0 q2 q4 q11 r0 r1 s0 s1
  refine Calls.mono (allSet_hashed (w.heap.size + 1) w.heap.size N _ _ xs K m a b c d W q0 q11 q2 q4 r0 r1 s0 s1 HR hN (by omega) b2 b1.1 b1.2 hN3) ?_
  rintro e W2 ⟨rfl, nd, rfl⟩
  obtain ⟨g, hg⟩ : ∃ g, g = progAll xs m (IntKind.u64.wrap (a + c)) (IntKind.u64.wrap (b + d)) K := ⟨_, rfl⟩
  have HG : Hid (g = progAll xs m (IntKind.u64.wrap (a + c)) (IntKind.u64.wrap (b + d)) K) := hg
  rw [← hg]
  clear hg q0 q2 q4 q11
  have hwr : 0 ≤ IntKind.u64.wrap (a + c) ∧ IntKind.u64.wrap (a + c) ≤ 18446744073709551615 := by rw [IntKind.wrap_u64]; omega
  go_wp2_with fail
  generalize IntKind.u64.wrap (a + c) = s at *
  generalize IntKind.u64.wrap (b + d) = t at *
  go_loop [24, 25, 27] (fun v x i => ∃ (j : Nat) (u : Bool), j ≤ K ∧ x = .int .u64 (atN s t j) ∧ i = .int .u64 j ∧ v = .bool u ∧ Hid (u = progAll xs m s t j)) (fun _ _ i => K - (intOf i).toNat)
  case atStart => exact ⟨0, true, Nat.zero_le _, rfl, rfl, rfl, rfl⟩
  case round =>
    obtain ⟨j, u, hj, rfl, rfl, rfl, hu⟩ := hrel
    by_cases hlt : j < K
    · have hat := atN_bd t hwr.1 hwr.2 j
      have HA : Hid (atN s t (j + 1) = IntKind.u64.wrap (atN s t j + t)) := rfl
      have HP : Hid (progAll xs m s t (j + 1) = (progAll xs m s t j && bitT xs (hi64 (atN s t j) m))) := rfl
      generalize atN s t j = x at *
      have hb := hi64_lt hat.2 (show 0 < m by omega)
      have hb0 := (hi64_bd hat.1 hat.2 (show 0 ≤ m by omega) (by omega)).1
      have HC := mul64_any x m hat.1 hat.2 (by omega) (by omega) (W.drewN nd)
      have HH : Hid (Calls Yba.prog 11 #[.int .u64 x, .int .u64 m] (W.drewN nd) fun e w' => e = .returned (.tuple #[.int .u64 (hi64 x m), .int .u64 (lo64 x m)]) ∧ W.drewN nd = w') := HC
      clear HC
      generalize hi64 x m = q at *
      generalize lo64 x m = lo at *
      have HX := bit_any w.heap.size N N xs q (W.drewN nd) (by omega) (by omega) (by omega) hN (HR.drewN nd)
      have HY : Hid (Calls Yba.prog 10 #[.slice (some ⟨w.heap.size, 0, none⟩) N N, .int .u64 q] (W.drewN nd) fun e w' => e = .returned (.bool (bitT xs q)) ∧ W.drewN nd = w') := HX
      clear HX
      have hjl : (j : Int) < (K : Int) := by omega
      cases hbt : bitT xs q with
      | true =>
        have HU : Hid (u = progAll xs m s t (j + 1)) := by unfold Hid; rw [HP.out, hbt, hu.out]; simp
        rw [hbt] at HY
        clear hbt hu HP
        go_wp2_with (first | (go_at_call 11; refine HH.out.mono ?_; rintro e w' ⟨rfl, rfl⟩) | (go_at_call 10; refine HY.out.mono ?_; rintro e w' ⟨rfl, rfl⟩))
        go_round
        case rel => exact ⟨j + 1, u, by omega, by rw [HA.out], by go_num, rfl, HU⟩
        case measure => simp [intOf]; omega
      | false =>
        have HU : Hid (false = progAll xs m s t (j + 1)) := by unfold Hid; rw [HP.out, hbt]; simp
        rw [hbt] at HY
        clear hbt hu HP
        go_wp2_with (first | (go_at_call 11; refine HH.out.mono ?_; rintro e w' ⟨rfl, rfl⟩) | (go_at_call 10; refine HY.out.mono ?_; rintro e w' ⟨rfl, rfl⟩))
        go_round
        case rel => exact ⟨j + 1, false, by omega, by rw [HA.out], by go_num, rfl, HU⟩
        case measure => simp [intOf]; omega
    · obtain rfl : K = j := by omega
      obtain rfl : g = u := by rw [hu.out, HG.out]
      clear hu HG HR
      go_wp2
      go_ret
      exact ⟨rfl, below_drewN HB nd⟩

set_option maxRecDepth 100000 in
set_option maxHeartbeats 400000 in
theorem hashed_long (a0 a1 a b c d a6 : Int) (a7 : Option Addr) (n7 c7 : Nat) (w : World) (l7 : 1024 < n7) (m7 : n7 ≤ maxLen) :
    Calls Yba.prog 4 #[.int .u16 a0, .int .u16 a1, .int .u64 a, .int .u64 b, .int .u64 c, .int .u64 d, .int .u8 a6, .slice a7 n7 c7] w fun e w' => e = .returned (.bool true) ∧ Below w.heap.size w w' := by
  unfold maxLen at m7
  go_enter Yba.func4, Yba.ntmps4
  go_wp2
  go_ret
  exact ⟨rfl, Below.refl _ _⟩
#print axioms hashed_walk
end Go.Proofs.Ybulkdaju
