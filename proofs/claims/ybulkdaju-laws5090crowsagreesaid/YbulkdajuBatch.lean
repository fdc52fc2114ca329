/-
  The batch: drawFew, indices, and ByKey where one row index is few.
-/
import Derived.Test.YbulkdajuPick
namespace Go.Proofs.Ybulkdaju
open Go.RowKit Go.Sort
/-- The twelve cells of a batch. -/
def batch (p0 p1 p2 : Value) (n x0 x1 x2 x3 : Int) (lg : Value) : Array Value := #[p0, p1, p2, .int .u64 n, .int .u64 x0, .int .u64 x1, .int .u64 x2, .int .u64 x3, lg, .slice none 0 0, .bool false, .int .u64 0]
def few1 (h base : Int) : Int := hi64 h (IntKind.u64.wrap (IntKind.u64.wrap base + 1))
theorem pick_one (h base x0 : Int) : (pickN base 0 ([x0], h) (1 - 0)).1 = [few1 h base] := by
  simp [pickN, pickStep, scanF, few1]
theorem grownBy.then {a b c : World} {r : Option Nat} (h : a.grownBy b r) (k : b.grownBy c r) : a.grownBy c r :=
  ⟨k.os.trans h.os, k.tape.trans h.tape, k.output.trans h.output, Nat.le_trans h.size k.size, fun i hi hne => (k.block i (Nat.lt_of_lt_of_le hi h.size) hne).trans (h.block i hi hne)⟩
set_option maxRecDepth 100000 in
set_option maxHeartbeats 400000 in
theorem drawFew_one (B bf : Nat) (p0 p1 p2 lg : Value) (n x0 x1 x2 x3 h base : Int) (w : World) (hne : bf ≠ B)
    (hB : w.heap[B]? = some (.cells (batch p0 p1 p2 n x0 x1 x2 x3 lg) 63 (0, 0))) (hk : w.cell? ⟨bf, 13, none⟩ = some (.int .u64 1)) (hb : w.cell? ⟨bf, 14, none⟩ = some (.int .u64 base))
    (hh : 0 ≤ h ∧ h ≤ 18446744073709551615) :
    Calls Yba.prog 28 #[.pointer (some ⟨B, 3, none⟩), .pointer (some ⟨bf, 12, none⟩), .int .u64 h] w fun e w' => e = .returned (.tuple #[]) ∧ w.grownBy w' (some B) ∧ w'.heap.size = w.heap.size ∧ w'.heap[B]? = some (.cells (batch p0 p1 p2 1 (few1 h base) x1 x2 x3 lg) 63 (0, 0)) := by
  have c3 := cell_of_row w B 3 _ 63 (0, 0) hB
  have f3 := frozen_of_row w B 3 _ 63 hB
  simp [batch] at c3
  have hW : (w.setCell ⟨B, 3, none⟩ (.int .u64 1)).heap[B]? = some (.cells (putInts (batch p0 p1 p2 1 x0 x1 x2 x3 lg) 4 [x0]) 63 (0, 0)) := by
    rw [heap_setCell_same w B 3 _ 63 _ hB]; rfl
  have HP := hid (pick_any B 4 1 4 (batch p0 p1 p2 1 x0 x1 x2 x3 lg) 63 [x0] 0 h base (w.setCell ⟨B, 3, none⟩ (.int .u64 1)).drew hW (by simp [batch]) rfl (by omega) (by omega) (by omega) (by omega) hh)
  have k2 : (w.setCell ⟨B, 3, none⟩ (.int .u64 1)).cell? ⟨bf, 13, none⟩ = some (.int .u64 1) := by rw [World.cell?_of_block (heap_setCell_other w _ bf _ hne)]; exact hk
  have k3 : (w.setCell ⟨B, 3, none⟩ (.int .u64 1)).cell? ⟨bf, 14, none⟩ = some (.int .u64 base) := by rw [World.cell?_of_block (heap_setCell_other w _ bf _ hne)]; exact hb
  have HG := hid (show w.grownBy (w.setCell ⟨B, 3, none⟩ (.int .u64 1)).drew (some B) from ⟨rfl, rfl, rfl, by simp [World.setCell], fun k hk hne => heap_setCell_other w ⟨B, 3, none⟩ k _ (by intro e; exact hne (by rw [e]))⟩)
  clear hW hB
  go_enter Yba.func28, Yba.ntmps28
  go_wp2
  have hnB : (some bf : Option Nat) ≠ some B := by simpa using hne
  go_region_held3 (fun w' => w'.cell? ⟨bf, 13, none⟩ = some (.int .u64 1) ∧ w'.cell? ⟨bf, 14, none⟩ = some (.int .u64 base)) (first | go_keep | exact ⟨hg2.cell (a := ⟨bf, 13, none⟩) k2 hnB, hg2.cell (a := ⟨bf, 14, none⟩) k3 hnB⟩) ((go_at_call 37; refine HP.out.mono ?_; rintro e w2 ⟨rfl, hg2, hs2, hb2⟩))
  go_wp2
  go_end0
  refine ⟨rfl, ?_, by rw [hs2]; simp [World.setCell], by rw [hb2, pick_one]; rfl⟩
  exact grownBy.then HG.out hg2

set_option maxRecDepth 100000 in
set_option maxHeartbeats 400000 in
theorem indices_any (B : Nat) (p0 p1 p2 : Value) (K : Nat) (x0 x1 x2 x3 : Int) (w : World) (hK : K ≤ 4)
    (hB : w.heap[B]? = some (.cells (batch p0 p1 p2 K x0 x1 x2 x3 (.slice none 0 0)) 63 (0, 0))) :
    Calls Yba.prog 31 #[.pointer (some ⟨B, 3, none⟩)] w fun e w' => e = .returned (.slice (some ⟨B, 4, none⟩) K 4) ∧ ∃ d, w' = w.drewN d := by
  have c3 := cell_of_row w B 3 _ 63 (0, 0) hB
  have c8 := cell_of_row w B 8 _ 63 (0, 0) hB
  simp [batch] at c3 c8
  have hK4 : (K : Int) ≤ 4 := by omega
  clear hB
  go_enter Yba.func31, Yba.ntmps31
  go_wp2
  go_quiet (fail)
  go_wp2
  go_ret
  exact ⟨rfl, nq, rfl⟩
theorem cell3 {w : World} {p : Addr} {v : Value} (h : w.cell? p = some v) (o1 o2 o3 : Obj) : (((w.alloc o1).alloc o2).alloc o3).cell? p = some v :=
  ((((Below.refl w.heap.size w).alloc (Nat.le_refl _) o1).alloc (by simp) o2).alloc (by simp; omega) o3).cell (World.block_lt_of_cell? w _ h) |>.trans h

/-- The world in the middle of fixRows: the batch at block w.heap.size, the two boxes behind it; of what was there nothing has turned. -/
structure Fix (w W : World) (bf : Nat) (a : Option Addr) (n cap : Nat) (bc : Array Value) : Prop where
  below : Below w.heap.size w W
  bat : W.heap[w.heap.size]? = some (.cells bc 63 (0, 0))
  pf : W.cell? ⟨w.heap.size + 1, 0, none⟩ = some (.pointer (some ⟨bf, 0, none⟩))
  px : W.cell? ⟨w.heap.size + 1 + 1, 0, none⟩ = some (.slice a n cap)
  size : w.heap.size + 3 ≤ W.heap.size
theorem Fix.start (w : World) (bf : Nat) (a : Option Addr) (n cap : Nat) (bc : Array Value) : Fix w ((((w.alloc (.cells bc 63)).alloc (.cells #[.pointer (some ⟨bf, 0, none⟩)] 25)).alloc (.cells #[.slice a n cap] 48)).drew) bf a n cap bc := by
  refine ⟨?_, ?_, ?_, ?_, ?_⟩
  · exact ((((Below.refl _ _).alloc (Nat.le_refl _) _).alloc (by simp) _).alloc (by simp; omega) _).drew
  · show (((w.heap.push _).push _).push _)[_]? = _
    simp only [Array.getElem?_push, Array.size_push]
    rw [if_neg (by omega), if_neg (by omega), if_pos trivial]
  · refine cell_of_row _ _ 0 #[.pointer (some ⟨bf, 0, none⟩)] 25 (0, 0) ?_
    show (((w.heap.push _).push _).push _)[_]? = _
    simp only [Array.getElem?_push, Array.size_push]
    rw [if_neg (by omega), if_pos trivial]
  · refine cell_of_row _ _ 0 #[.slice a n cap] 48 (0, 0) ?_
    show (((w.heap.push _).push _).push _)[_]? = _
    simp only [Array.getElem?_push, Array.size_push]
    rw [if_pos trivial]
  · show _ ≤ (((w.heap.push _).push _).push _).size
    simp
theorem Fix.later {w W W2 : World} {bf : Nat} {a : Option Addr} {n cap : Nat} {bc : Array Value} (h : Fix w W bf a n cap bc) (hb : Below W.heap.size W W2) : Fix w W2 bf a n cap bc :=
  ⟨h.below.trans (hb.mono h.below.size), by rw [hb.block _ (by have := h.size; omega)]; exact h.bat, (hb.cell (by have := h.size; simp; omega)).trans h.pf, (hb.cell (by have := h.size; simp; omega)).trans h.px, Nat.le_trans h.size hb.size⟩
theorem Fix.grown {w W W2 : World} {bf : Nat} {a : Option Addr} {n cap : Nat} {bc bc2 : Array Value} (h : Fix w W bf a n cap bc) (hg : W.grownBy W2 (some w.heap.size)) (hb : W2.heap[w.heap.size]? = some (.cells bc2 63 (0, 0))) : Fix w W2 bf a n cap bc2 :=
  ⟨h.below.grown hg h.below.size (by intro k hk; cases hk; exact Nat.le_refl _), hb, hg.cell h.pf (by simp), hg.cell h.px (by simp; omega), Nat.le_trans h.size hg.size⟩
theorem Fix.cell {w W : World} {bf : Nat} {a : Option Addr} {n cap : Nat} {bc : Array Value} (h : Fix w W bf a n cap bc) {k : Nat} {v : Value} (hc : w.cell? ⟨bf, k, none⟩ = some v) : W.cell? ⟨bf, k, none⟩ = some v :=
  (h.below.cell (World.block_lt_of_cell? w _ hc)).trans hc

set_option maxRecDepth 100000 in
set_option maxHeartbeats 400000 in
theorem byKey_few (bf : Nat) (m2 key base : Int) (colFew : Bool) (a : Option Addr) (n cap : Nat) (F : Nat → Int) (w : World)
    (hf0 : w.cell? ⟨bf, 0, none⟩ = some (.int .i64 1)) (hf2 : w.cell? ⟨bf, 2, none⟩ = some (.int .u64 m2)) (hf8 : w.cell? ⟨bf, 8, none⟩ = some (.int .u64 key))
    (hf13 : w.cell? ⟨bf, 13, none⟩ = some (.int .u64 1)) (hf14 : w.cell? ⟨bf, 14, none⟩ = some (.int .u64 base))
    (hf16 : w.cell? ⟨bf, 16, none⟩ = some (.bool true)) (hf21 : w.cell? ⟨bf, 21, none⟩ = some (.bool colFew))
    (hk : 0 ≤ key ∧ key ≤ 18446744073709551615) (hn' : n ≤ 4096) (hC : CameB w a n cap F) :
    Calls Yba.prog 13 #[.pointer (some ⟨bf, 0, none⟩), .slice a n cap] w fun e w' => e = .returned (.pointer (some ⟨w.heap.size, 0, none⟩)) ∧ Below w.heap.size w w' ∧
      w'.heap[w.heap.size]? = some (.cells (batch (.pointer (some ⟨bf, 0, none⟩)) (.pointer (some ⟨bf, 17, none⟩)) (.bool true) 1 (if colFew then IntKind.u64.wrap (few1 (sumF key F n) base * m2) else few1 (sumF key F n) base) 0 0 0 (.slice none 0 0)) 63 (0, 0)) := by
  have hlt : bf < w.heap.size := World.block_lt_of_cell? w _ hf0
  have HC := hid hC
  have g0 := cell3 hf0
  have g16 := cell3 hf16
  have H2 := hid hf2
  have H8 := hid hf8
  have H13 := hid hf13
  have H14 := hid hf14
  have H21 := hid hf21
  clear hC hf0 hf2 hf8 hf13 hf14 hf16 hf21
  go_enter Yba.func13, Yba.ntmps13
  go_wp2
  go_region_held3 (fun w' => w'.cell? ⟨w.heap.size + 1, 0, none⟩ = some (.pointer (some ⟨bf, 0, none⟩))) (go_keep) (fail)
  go_wp2
  have hfx := Fix.start w bf a n cap (batch (.pointer (some ⟨bf, 0, none⟩)) (.pointer (some ⟨bf, 17, none⟩)) (.bool true) 0 0 0 0 0 (.slice none 0 0))
  unfold batch at hfx
  generalize (((w.alloc _).alloc _).alloc _).drew = W at *
  clear g0 g16
  have HX := hid hfx
  have c1 := hfx.pf
  have c2 := hfx.px
  have c8 := hfx.cell H8.out
  clear hfx
  have HSUM := hid (sum_all key a n cap F W.drew hk.1 hk.2 hn' (HC.out.later (HX.out.below.drew)))
  have hsb := sumF_bd key F n
  obtain ⟨h, hh⟩ : ∃ h, sumF key F n = h := ⟨_, rfl⟩
  rw [hh] at HSUM hsb
  have HH := hid hh
  clear hh
  go_region_held3 (fun w' => w'.cell? ⟨w.heap.size + 1, 0, none⟩ = some (.pointer (some ⟨bf, 0, none⟩)) ∧ w'.cell? ⟨w.heap.size + 1 + 1, 0, none⟩ = some (.slice a n cap) ∧ w'.cell? ⟨bf, 8, none⟩ = some (.int .u64 key)) (first | go_keep | exact ⟨HX2.out.pf, HX2.out.px, HX2.out.cell H8.out⟩ | exact ⟨HX3.out.pf, HX3.out.px, HX3.out.cell H8.out⟩)
    (first
      | (go_at_call 14; refine HSUM.out.mono ?_; rintro e w2 ⟨rfl, hb2⟩; have HX2 := hid (Fix.later (W := W.drew) (HX.out.later ((Below.refl _ _).drew)) hb2))
      | (go_at_call 28; refine (drawFew_one w.heap.size bf _ _ _ _ 0 0 0 0 0 h base w2 (by omega) HX2.out.bat (HX2.out.cell H13.out) (HX2.out.cell H14.out) hsb).mono ?_; rintro e w3 ⟨rfl, hg3, hs3, hb3⟩; have HX3 := hid (HX2.out.grown hg3 hb3)))
  clear HSUM hb2 HX2 hg3 hs3 hb3 HX c1 c2 c8
  have c1 := HX3.out.pf
  have c21 := HX3.out.cell H21.out
  cases colFew with
  | false =>
    go_wp2
    go_end0
    go_wp2
    go_ret
    exact ⟨rfl, HX3.out.below, by rw [HH.out]; exact HX3.out.bat⟩
  | true =>
    have c2 := HX3.out.cell H2.out
    have HI := hid (indices_any w.heap.size _ _ _ 1 _ 0 0 0 w3 (by omega) HX3.out.bat)
    go_wp2_with (go_at_call 31; refine HI.out.mono ?_; rintro e w4 ⟨rfl, d4, rfl⟩)
    have c4 := cell_of_row w3 w.heap.size 4 _ 63 (0, 0) HX3.out.bat
    have f4 := frozen_of_row w3 w.heap.size 4 _ 63 HX3.out.bat
    simp [batch] at c4
    obtain ⟨x0, hx0⟩ : ∃ x, few1 h base = x := ⟨_, rfl⟩
    rw [hx0] at c4
    have HN := hid (show Fix w (w3.setCell ⟨w.heap.size, 4, none⟩ (.int .u64 (IntKind.u64.wrap (x0 * m2)))) bf a n cap (batch (.pointer (some ⟨bf, 0, none⟩)) (.pointer (some ⟨bf, 17, none⟩)) (.bool true) 1 (IntKind.u64.wrap (x0 * m2)) 0 0 0 (.slice none 0 0)) from
      HX3.out.grown ⟨rfl, rfl, rfl, by simp [World.setCell], fun k hk hne => heap_setCell_other w3 _ k _ (by intro e; exact hne (by rw [e]))⟩ (by rw [heap_setCell_same w3 w.heap.size 4 _ 63 _ HX3.out.bat]; rfl))
    have d1 := HN.out.pf
    have d2 := HN.out.cell H2.out
    have HX0 := hid hx0
    clear hx0
    refine wp_loop_rounds 2 ?_
    rw [rounds_succ]
    go_wp2
    rw [rounds_succ]
    go_wp2
    go_end0
    go_wp2
    go_ret
    have HZ := HN.out.later (below_drewN (Below.refl _ _) d4)
    exact ⟨rfl, HZ.below, by rw [HH.out, HX0.out]; exact HZ.bat⟩
#print axioms byKey_few
end Go.Proofs.Ybulkdaju
