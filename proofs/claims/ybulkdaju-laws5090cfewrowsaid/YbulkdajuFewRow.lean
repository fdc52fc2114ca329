/-
  LawS5090CFewRow (function 6), walked.
-/
import Derived.Test.YbulkdajuBatch
import Derived.LaidEqlPtr
namespace Go.Proofs.Ybulkdaju
open Go.RowKit Go.Sort
theorem ptr_same (t e : TypeId) (hp : Yba.prog.underlying t = some (.pointer e)) (he : (Yba.prog.info? e).isSome = true) (a : Addr) (w : World) :
    (binOp .eql t (.pointer (some a)) (.pointer (some a))).run Yba.prog w = .ok (.bool true) w := by
  obtain ⟨j, hj⟩ := Option.isSome_iff_exists.1 he
  exact run_eql_ptr_same w a hp hj
theorem eq25 (a : Addr) (w : World) : (binOp .eql 25 (.pointer (some a)) (.pointer (some a))).run Yba.prog w = .ok (.bool true) w := ptr_same 25 40 Yba.underlying25 (by kernel_rfl) a w
theorem eq54 (a : Addr) (w : World) : (binOp .eql 54 (.pointer (some a)) (.pointer (some a))).run Yba.prog w = .ok (.bool true) w := ptr_same 54 32 Yba.underlying54 (by kernel_rfl) a w
theorem eq22 (w : World) : (binOp .eql 22 (.slice none 0 0) (.slice none 0 0)).run Yba.prog w = .ok (.bool true) w := by kernel_rfl
theorem few1_m1 (h m1 : Int) (h0 : 0 ≤ m1) (h1 : m1 ≤ 18446744073709551615) : few1 h (IntKind.u64.wrap (m1 - 1)) = hi64 h m1 := by
  have e : IntKind.u64.wrap (IntKind.u64.wrap (IntKind.u64.wrap (m1 - 1)) + 1) = m1 := by
    rw [IntKind.wrap_u64, IntKind.wrap_u64, IntKind.wrap_u64]; omega
  unfold few1
  rw [e]
set_option maxRecDepth 100000 in
set_option maxHeartbeats 1600000 in
theorem fewRow_walk (m1 m2 key : Int) (colFew : Bool) (a : Option Addr) (n cap : Nat) (F : Nat → Int) (w : World) (hm : 0 ≤ m1 ∧ m1 ≤ 18446744073709551615) (hk : 0 ≤ key ∧ key ≤ 18446744073709551615) (hn : n ≤ 4096) (hC : CameB w a n cap F) :
    Calls Yba.prog 6 #[.int .u64 m1, .int .u64 m2, .int .u64 key, .bool colFew, .slice a n cap] w fun e w' => e = .returned (.bool true) ∧ Below w.heap.size w w' := by
  have HC := hid hC
  clear hC
  go_enter Yba.func6, Yba.ntmps6
  go_wp2_with fail
  have hcell := fun k => cell_of_row (w.alloc (.cells #[.int .i64 1, .int .u64 m1, .int .u64 m2, .int .u64 1, .int .u64 1, .int .u64 1, .int .u64 0, .int .u64 0, .int .u64 key, .int .u64 0, .int .u64 0, .slice none 0 0, .int .u64 key, .int .u64 1, .int .u64 (IntKind.u64.wrap (m1 - 1)), .int .u64 m2, .bool true, .int .u64 0, .int .u64 1, .int .u64 (IntKind.u64.wrap (m2 - 1)), .int .u64 1, .bool colFew, .bool false, .pointer none, .int .u64 0, .pointer none, .int .u64 0, .nilFunc] 40)) w.heap.size k #[.int .i64 1, .int .u64 m1, .int .u64 m2, .int .u64 1, .int .u64 1, .int .u64 1, .int .u64 0, .int .u64 0, .int .u64 key, .int .u64 0, .int .u64 0, .slice none 0 0, .int .u64 key, .int .u64 1, .int .u64 (IntKind.u64.wrap (m1 - 1)), .int .u64 m2, .bool true, .int .u64 0, .int .u64 1, .int .u64 (IntKind.u64.wrap (m2 - 1)), .int .u64 1, .bool colFew, .bool false, .pointer none, .int .u64 0, .pointer none, .int .u64 0, .nilFunc] 40 (0, 0) (heap_alloc_new w _)
  have q0 := hcell 0
  have q2 := hcell 2
  have q8 := hcell 8
  have q13 := hcell 13
  have q14 := hcell 14
  have q16 := hcell 16
  have q21 := hcell 21
  clear hcell
  have hb1 : Below w.heap.size w (w.alloc (.cells #[.int .i64 1, .int .u64 m1, .int .u64 m2, .int .u64 1, .int .u64 1, .int .u64 1, .int .u64 0, .int .u64 0, .int .u64 key, .int .u64 0, .int .u64 0, .slice none 0 0, .int .u64 key, .int .u64 1, .int .u64 (IntKind.u64.wrap (m1 - 1)), .int .u64 m2, .bool true, .int .u64 0, .int .u64 1, .int .u64 (IntKind.u64.wrap (m2 - 1)), .int .u64 1, .bool colFew, .bool false, .pointer none, .int .u64 0, .pointer none, .int .u64 0, .nilFunc] 40)) := (Below.refl _ _).alloc (Nat.le_refl _) _
  have hs1 : (w.alloc (.cells #[.int .i64 1, .int .u64 m1, .int .u64 m2, .int .u64 1, .int .u64 1, .int .u64 1, .int .u64 0, .int .u64 0, .int .u64 key, .int .u64 0, .int .u64 0, .slice none 0 0, .int .u64 key, .int .u64 1, .int .u64 (IntKind.u64.wrap (m1 - 1)), .int .u64 m2, .bool true, .int .u64 0, .int .u64 1, .int .u64 (IntKind.u64.wrap (m2 - 1)), .int .u64 1, .bool colFew, .bool false, .pointer none, .int .u64 0, .pointer none, .int .u64 0, .nilFunc] 40)).heap.size = w.heap.size + 1 := by simp
  generalize w.alloc _ = W at *
  simp at q0 q2 q8 q13 q14 q16 q21
  refine (byKey_few w.heap.size m2 key _ colFew a n cap F W q0 q2 q8 q13 q14 q16 q21 hk hn (HC.out.later hb1)).mono ?_
  rintro e W2 ⟨rfl, hb2, hbat⟩
  rw [hs1] at hb2 hbat
  clear q0 q2 q8 q13 q14 q16 q21
  have hb3 : Below w.heap.size w W2 := hb1.trans (hb2.mono (by omega))
  have HSUM := hid (sum_all key a n cap F W2 hk.1 hk.2 hn (HC.out.later hb3))
  have hsb := sumF_bd key F n
  rw [few1_m1 _ _ hm.1 hm.2] at hbat
  generalize sumF key F n = h at *
  have HM := fun w => hid (mul64_any h m1 hsb.1 hsb.2 hm.1 hm.2 w)
  generalize hi64 h m1 = x at *
  generalize lo64 h m1 = lo at *
  have hs2 := hb2.size
  cases colFew with
  | false =>
    go_wp2_with (first | (go_at_call 14; refine HSUM.out.mono ?_; rintro e W3 ⟨rfl, hb4⟩) | (go_at_call 11; refine (HM _).out.mono ?_; rintro e W4 ⟨rfl, rfl⟩))
    have hbat3 : W3.heap[w.heap.size + 1]? = _ := (hb4.block _ (lt_of_block hbat)).trans hbat
    have k0 := cell_of_row W3 _ 0 _ 63 (0, 0) hbat3
    have k1 := cell_of_row W3 _ 1 _ 63 (0, 0) hbat3
    have k2 := cell_of_row W3 _ 2 _ 63 (0, 0) hbat3
    have k3 := cell_of_row W3 _ 3 _ 63 (0, 0) hbat3
    have k4 := cell_of_row W3 _ 4 _ 63 (0, 0) hbat3
    have k8 := cell_of_row W3 _ 8 _ 63 (0, 0) hbat3
    simp [batch] at k0 k1 k2 k3 k4 k8
    have hb5 : Below w.heap.size w W3 := hb3.trans (hb4.mono hb3.size)
    clear hbat3 hbat hb4 hb3 HSUM HM hs1 hs2 hb2 hb1
    have e25 := eq25
    have e54 := eq54
    have e22 := eq22
    go_quiet (fail)
    go_wp2
    go_ret
    exact ⟨rfl, below_drewN hb5 nq⟩
  | true =>
    go_wp2_with (first | (go_at_call 14; refine HSUM.out.mono ?_; rintro e W3 ⟨rfl, hb4⟩) | (go_at_call 11; refine (HM _).out.mono ?_; rintro e W4 ⟨rfl, rfl⟩))
    have hbat3 : W3.heap[w.heap.size + 1]? = _ := (hb4.block _ (lt_of_block hbat)).trans hbat
    have k0 := cell_of_row W3 _ 0 _ 63 (0, 0) hbat3
    have k1 := cell_of_row W3 _ 1 _ 63 (0, 0) hbat3
    have k2 := cell_of_row W3 _ 2 _ 63 (0, 0) hbat3
    have k3 := cell_of_row W3 _ 3 _ 63 (0, 0) hbat3
    have k4 := cell_of_row W3 _ 4 _ 63 (0, 0) hbat3
    have k8 := cell_of_row W3 _ 8 _ 63 (0, 0) hbat3
    simp [batch] at k0 k1 k2 k3 k4 k8
    have hb5 : Below w.heap.size w W3 := hb3.trans (hb4.mono hb3.size)
    clear hbat3 hbat hb4 hb3 HSUM HM hs1 hs2 hb2 hb1
    have e25 := eq25
    have e54 := eq54
    have e22 := eq22
    go_quiet (fail)
    go_wp2
    go_ret
    exact ⟨rfl, below_drewN hb5 nq⟩

set_option maxRecDepth 100000 in
set_option maxHeartbeats 400000 in
theorem fewRow_long (m1 m2 key : Int) (colFew : Bool) (a : Option Addr) (n cap : Nat) (w : World) (hn : 4096 < n) (hn' : n ≤ maxLen) :
    Calls Yba.prog 6 #[.int .u64 m1, .int .u64 m2, .int .u64 key, .bool colFew, .slice a n cap] w fun e w' => e = .returned (.bool true) ∧ Below w.heap.size w w' := by
  unfold maxLen at hn'
  go_enter Yba.func6, Yba.ntmps6
  go_wp2
  go_ret
  exact ⟨rfl, Below.refl _ _⟩
#print axioms fewRow_walk
end Go.Proofs.Ybulkdaju
