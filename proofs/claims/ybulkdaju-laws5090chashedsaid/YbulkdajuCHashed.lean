/-
  LawS5090CHashed (function 5), walked.
-/
import Derived.Test.YbulkdajuMix
import Derived.LaidEqlPtr
namespace Go.Proofs.Ybulkdaju
open Go.RowKit Go.Sort
theorem ptr_same (t e : TypeId) (hp : Yba.prog.underlying t = some (.pointer e)) (he : (Yba.prog.info? e).isSome = true) (a : Addr) (w : World) :
    (binOp .eql t (.pointer (some a)) (.pointer (some a))).run Yba.prog w = .ok (.bool true) w := by
  obtain ⟨j, hj⟩ := Option.isSome_iff_exists.1 he
  exact run_eql_ptr_same w a hp hj
theorem eq25 (a : Addr) (w : World) : (binOp .eql 25 (.pointer (some a)) (.pointer (some a))).run Yba.prog w = .ok (.bool true) w := ptr_same 25 40 Yba.underlying25 (by kernel_rfl) a w
theorem eq54 (a : Addr) (w : World) : (binOp .eql 54 (.pointer (some a)) (.pointer (some a))).run Yba.prog w = .ok (.bool true) w := ptr_same 54 32 Yba.underlying54 (by kernel_rfl) a w
theorem eq22 (w : World) : (binOp .eql 22 (.slice none 0 0) (.slice none 0 0)).run Yba.prog w = .ok (.bool true) w := by kernel_rfl

set_option maxRecDepth 100000 in
set_option maxHeartbeats 1600000 in
theorem hashedC_walk (m k key ck bk : Int) (a : Option Addr) (n cap : Nat) (F : Nat → Int) (w : World) (hk : 0 ≤ key ∧ key ≤ 18446744073709551615) (hn : n ≤ 4096) (hC : CameB w a n cap F) :
    Calls Yba.prog 5 #[.int .u64 m, .int .u64 k, .int .u64 key, .int .u64 ck, .int .u64 bk, .slice a n cap] w fun e w' => e = .returned (.bool true) ∧ Below w.heap.size w w' := by
  have HC := hid hC
  clear hC
  go_enter Yba.func5, Yba.ntmps5
  go_wp2_with (go_at_call 12; refine (geom_any _ _ _).mono ?_; rintro e w1 ⟨rfl, hb1⟩)
  have hcell := fun ix => cell_of_row (w1.alloc (.cells #[.int .i64 4, .int .u64 1, .int .u64 m, .int .u64 k, .int .u64 k, .int .u64 1, .int .u64 0, .int .u64 0, .int .u64 key, .int .u64 ck, .int .u64 bk, .slice none 0 0, .int .u64 key, .int .u64 0, .int .u64 0, .int .u64 0, .bool false, .int .u64 ck, .int .u64 0, .int .u64 0, .int .u64 0, .bool false, .bool false, .pointer none, .int .u64 0, .pointer none, .int .u64 0, .nilFunc] 40)) w1.heap.size ix #[.int .i64 4, .int .u64 1, .int .u64 m, .int .u64 k, .int .u64 k, .int .u64 1, .int .u64 0, .int .u64 0, .int .u64 key, .int .u64 ck, .int .u64 bk, .slice none 0 0, .int .u64 key, .int .u64 0, .int .u64 0, .int .u64 0, .bool false, .int .u64 ck, .int .u64 0, .int .u64 0, .int .u64 0, .bool false, .bool false, .pointer none, .int .u64 0, .pointer none, .int .u64 0, .nilFunc] 40 (0, 0) (heap_alloc_new w1 _)
  have q0 := hcell 0
  have q8 := hcell 8
  have q21 := hcell 21
  clear hcell
  have hb1' : Below w.heap.size w (w1.alloc (.cells #[.int .i64 4, .int .u64 1, .int .u64 m, .int .u64 k, .int .u64 k, .int .u64 1, .int .u64 0, .int .u64 0, .int .u64 key, .int .u64 ck, .int .u64 bk, .slice none 0 0, .int .u64 key, .int .u64 0, .int .u64 0, .int .u64 0, .bool false, .int .u64 ck, .int .u64 0, .int .u64 0, .int .u64 0, .bool false, .bool false, .pointer none, .int .u64 0, .pointer none, .int .u64 0, .nilFunc] 40)) := hb1.alloc hb1.size _
  have hs1 : (w1.alloc (.cells #[.int .i64 4, .int .u64 1, .int .u64 m, .int .u64 k, .int .u64 k, .int .u64 1, .int .u64 0, .int .u64 0, .int .u64 key, .int .u64 ck, .int .u64 bk, .slice none 0 0, .int .u64 key, .int .u64 0, .int .u64 0, .int .u64 0, .bool false, .int .u64 ck, .int .u64 0, .int .u64 0, .int .u64 0, .bool false, .bool false, .pointer none, .int .u64 0, .pointer none, .int .u64 0, .nilFunc] 40)).heap.size = w1.heap.size + 1 := by simp
  generalize w1.alloc _ = W at *
  simp at q0 q8 q21
  have hws := hb1.size
  refine (byKey_hashed w1.heap.size key a n cap F W q0 q8 q21 hk hn (HC.out.later hb1')).mono ?_
  rintro e W2 ⟨rfl, hb2, hbat⟩
  rw [hs1] at hb2 hbat
  clear q0 q8 q21
  have hb3 : Below w.heap.size w W2 := hb1'.trans (hb2.mono (by omega))
  have HSUM := hid (sum_all key a n cap F W2 hk.1 hk.2 hn (HC.out.later hb3))
  generalize sumF key F n = h at *
  have hs2 := hb2.size
  have e1 : IntKind.u64.wrap (h + 11400714819323198485) = g1 h := rfl
  have e2 : IntKind.u64.wrap (g1 h + 11400714819323198485) = g1 (g1 h) := rfl
  go_wp2_with (first | (go_at_call 14; refine HSUM.out.mono ?_; rintro e W3 ⟨rfl, hb4⟩) | (go_at_call 15; refine (cmix_any _ _).mono ?_; rintro e W4 ⟨rfl, rfl⟩))
  have hbat3 : W3.heap[w1.heap.size + 1]? = _ := (hb4.block _ (lt_of_block hbat)).trans hbat
  generalize mixF (g1 h) = x at *
  generalize mixF (g1 (g1 h)) = y at *
  have k0 := cell_of_row W3 _ 0 _ 63 (0, 0) hbat3
  have k1 := cell_of_row W3 _ 1 _ 63 (0, 0) hbat3
  have k2 := cell_of_row W3 _ 2 _ 63 (0, 0) hbat3
  have k3 := cell_of_row W3 _ 3 _ 63 (0, 0) hbat3
  have k4 := cell_of_row W3 _ 4 _ 63 (0, 0) hbat3
  have k5 := cell_of_row W3 _ 5 _ 63 (0, 0) hbat3
  have k8 := cell_of_row W3 _ 8 _ 63 (0, 0) hbat3
  simp [batch] at k0 k1 k2 k3 k4 k5 k8
  have hb5 : Below w.heap.size w W3 := hb3.trans (hb4.mono hb3.size)
  clear hbat3 hbat hb4 hb3 HSUM hs1 hs2 hb2 hb1 hb1' e1 e2
  have e25 := eq25
  have e54 := eq54
  have e22 := eq22
  go_quiet (fail)
  go_wp2
  go_ret
  exact ⟨rfl, below_drewN hb5 nq⟩

set_option maxRecDepth 100000 in
set_option maxHeartbeats 400000 in
theorem hashedC_long (m k key ck bk : Int) (a : Option Addr) (n cap : Nat) (w : World) (hn : 4096 < n) (hn' : n ≤ maxLen) :
    Calls Yba.prog 5 #[.int .u64 m, .int .u64 k, .int .u64 key, .int .u64 ck, .int .u64 bk, .slice a n cap] w fun e w' => e = .returned (.bool true) ∧ Below w.heap.size w w' := by
  unfold maxLen at hn'
  go_enter Yba.func5, Yba.ntmps5
  go_wp2
  go_ret
  exact ⟨rfl, Below.refl _ _⟩
#print axioms hashedC_walk
end Go.Proofs.Ybulkdaju
