/-
  mix, startAndStep, setProgression; ByKey of a hashed filter.
-/
import Derived.Test.YbulkdajuBatch
namespace Go.Proofs.Ybulkdaju
open Go.RowKit Go.Sort
def mixF (x : Int) : Int :=
  let a := bits .xor .u64 x (x / 1073741824)
  let b := IntKind.u64.wrap (a * 13787848793156543929)
  let c := bits .xor .u64 b (b / 134217728)
  let d := IntKind.u64.wrap (c * 10723151780598845931)
  bits .xor .u64 d (d / 2147483648)
set_option maxHeartbeats 400000 in
theorem mix_any (x : Int) (w : World) : Calls Yba.prog 36 #[.int .u64 x] w fun e w' => e = .returned (.int .u64 (mixF x)) ∧ w = w' := by
  go_enter Yba.func36, Yba.ntmps36
  go_wp2
  go_ret
  exact ⟨rfl, rfl⟩
set_option maxHeartbeats 400000 in
theorem cmix_any (x : Int) (w : World) : Calls Yba.prog 15 #[.int .u64 x] w fun e w' => e = .returned (.int .u64 (mixF x)) ∧ w = w' := by
  go_enter Yba.func15, Yba.ntmps15
  go_wp2
  go_ret
  exact ⟨rfl, rfl⟩
def g1 (h : Int) : Int := IntKind.u64.wrap (h + 11400714819323198485)
set_option maxHeartbeats 400000 in
theorem startStep_any (h : Int) (w : World) : Calls Yba.prog 32 #[.int .u64 h] w fun e w' => e = .returned (.tuple #[.int .u64 (mixF (g1 h)), .int .u64 (mixF (g1 (g1 h)))]) ∧ w = w' := by
  have e1 : IntKind.u64.wrap (h + 11400714819323198485) = g1 h := rfl
  have e2 : IntKind.u64.wrap (g1 h + 11400714819323198485) = g1 (g1 h) := rfl
  go_enter Yba.func32, Yba.ntmps32
  go_wp2_with (go_at_call 36; refine (mix_any _ _).mono ?_; rintro e w' ⟨rfl, rfl⟩)
  go_ret2
  exact ⟨rfl, rfl⟩
set_option maxHeartbeats 400000 in
theorem geom_any (m k : Int) (w : World) : Calls Yba.prog 12 #[.int .u64 m, .int .u64 k] w fun e w' => e = .returned (.agg #[.int .i64 4, .int .u64 1, .int .u64 m, .int .u64 k, .int .u64 k, .int .u64 1]) ∧ Below w.heap.size w w' := by
  go_enter Yba.func12, Yba.ntmps12
  go_wp2
  exact bodyPost_ret (v := .agg #[.int .i64 4, .int .u64 1, .int .u64 m, .int .u64 k, .int .u64 k, .int .u64 1]) (by simp [results, Yba.results12, go_sem]) rfl ⟨rfl, (Below.refl _ _).alloc (Nat.le_refl _) _⟩

set_option maxRecDepth 100000 in
set_option maxHeartbeats 400000 in
theorem setProg_any (B : Nat) (p0 p1 p2 lg : Value) (n x0 x1 x2 x3 h : Int) (w : World)
    (hB : w.heap[B]? = some (.cells (batch p0 p1 p2 n x0 x1 x2 x3 lg) 63 (0, 0))) :
    Calls Yba.prog 27 #[.pointer (some ⟨B, 3, none⟩), .int .u64 h] w fun e w' => e = .returned (.tuple #[]) ∧ w.grownBy w' (some B) ∧ w'.heap.size = w.heap.size ∧ w'.heap[B]? = some (.cells (batch p0 p1 p2 2 (mixF (g1 h)) (mixF (g1 (g1 h))) x2 x3 lg) 63 (0, 0)) := by
  have c3 := cell_of_row w B 3 _ 63 (0, 0) hB
  have f3 := frozen_of_row w B 3 _ 63 hB
  simp [batch] at c3
  have hW : (w.setCell ⟨B, 3, none⟩ (.int .u64 2)).heap[B]? = some (.cells (batch p0 p1 p2 2 x0 x1 x2 x3 lg) 63 (0, 0)) := by
    rw [heap_setCell_same w B 3 _ 63 _ hB]; rfl
  have HG := hid (show w.grownBy (w.setCell ⟨B, 3, none⟩ (.int .u64 2)) (some B) from ⟨rfl, rfl, rfl, by simp [World.setCell], fun k hk hne => heap_setCell_other w ⟨B, 3, none⟩ k _ (by intro e; exact hne (by rw [e]))⟩)
  have HS := hid (show (w.setCell ⟨B, 3, none⟩ (.int .u64 2)).heap.size = w.heap.size by simp [World.setCell])
  go_enter Yba.func27, Yba.ntmps27
  go_wp2
  generalize w.setCell ⟨B, 3, none⟩ (.int .u64 2) = W at *
  have c4 := cell_of_row W B 4 _ 63 (0, 0) hW
  have f4 := frozen_of_row W B 4 _ 63 hW
  simp [batch] at c4
  obtain ⟨a, ha⟩ : ∃ a, mixF (g1 h) = a := ⟨_, rfl⟩
  obtain ⟨b, hb⟩ : ∃ b, mixF (g1 (g1 h)) = b := ⟨_, rfl⟩
  have HQ := fun W => hid (startStep_any h W)
  rw [ha, hb] at HQ
  have hW1 : (W.setCell ⟨B, 4, none⟩ (.int .u64 a)).heap[B]? = some (.cells (batch p0 p1 p2 2 a x1 x2 x3 lg) 63 (0, 0)) := by
    rw [heap_setCell_same W B 4 _ 63 _ hW]; rfl
  have c5 := cell_of_row (W.setCell ⟨B, 4, none⟩ (.int .u64 a)) B 5 _ 63 (0, 0) hW1
  have f5 := frozen_of_row (W.setCell ⟨B, 4, none⟩ (.int .u64 a)) B 5 _ 63 hW1
  simp [batch] at c5
  have hW2 : ((W.setCell ⟨B, 4, none⟩ (.int .u64 a)).setCell ⟨B, 5, none⟩ (.int .u64 b)).heap[B]? = some (.cells (batch p0 p1 p2 2 a b x2 x3 lg) 63 (0, 0)) := by
    rw [heap_setCell_same _ B 5 _ 63 _ hW1]; rfl
  have HG2 := hid (show W.grownBy ((W.setCell ⟨B, 4, none⟩ (.int .u64 a)).setCell ⟨B, 5, none⟩ (.int .u64 b)) (some B) from ⟨rfl, rfl, rfl, by simp [World.setCell], fun k hk hne => by
    have hk' : k ≠ B := by intro e; exact hne (by rw [e])
    rw [heap_setCell_other _ ⟨B, 5, none⟩ k _ hk', heap_setCell_other _ ⟨B, 4, none⟩ k _ hk']⟩)
  have HW2 := hid hW2
  have HA := hid ha
  have HBB := hid hb
  clear hB hW hW1 hW2 ha hb
  go_region_held3 (fun _ => True) (trivial) ((go_at_call 32; refine (HQ _).out.mono ?_; rintro e w2 ⟨rfl, rfl⟩))
  go_wp2
  go_end0
  exact ⟨rfl, grownBy.then HG.out ⟨HG2.out.os, HG2.out.tape, HG2.out.output, HG2.out.size, HG2.out.block⟩, by rw [← HS.out]; simp [World.setCell], by rw [HA.out, HBB.out]; exact HW2.out⟩

set_option maxRecDepth 100000 in
set_option maxHeartbeats 400000 in
theorem byKey_hashed (bf : Nat) (key : Int) (a : Option Addr) (n cap : Nat) (F : Nat → Int) (w : World)
    (hf0 : w.cell? ⟨bf, 0, none⟩ = some (.int .i64 4)) (hf8 : w.cell? ⟨bf, 8, none⟩ = some (.int .u64 key)) (hf21 : w.cell? ⟨bf, 21, none⟩ = some (.bool false))
    (hk : 0 ≤ key ∧ key ≤ 18446744073709551615) (hn' : n ≤ 4096) (hC : CameB w a n cap F) :
    Calls Yba.prog 13 #[.pointer (some ⟨bf, 0, none⟩), .slice a n cap] w fun e w' => e = .returned (.pointer (some ⟨w.heap.size, 0, none⟩)) ∧ Below w.heap.size w w' ∧
      w'.heap[w.heap.size]? = some (.cells (batch (.pointer (some ⟨bf, 0, none⟩)) (.pointer (some ⟨bf, 17, none⟩)) (.bool true) 2 (mixF (g1 (sumF key F n))) (mixF (g1 (g1 (sumF key F n)))) 0 0 (.slice none 0 0)) 63 (0, 0)) := by
  have hlt : bf < w.heap.size := World.block_lt_of_cell? w _ hf0
  have HC := hid hC
  have g0 := cell3 hf0
  have H8 := hid hf8
  have H21 := hid hf21
  clear hC hf0 hf8 hf21
  go_enter Yba.func13, Yba.ntmps13
  go_wp2
  go_region_held3 (fun w' => w'.cell? ⟨w.heap.size + 1, 0, none⟩ = some (.pointer (some ⟨bf, 0, none⟩))) (go_keep) (fail)
  go_wp2
  have hfx := Fix.start w bf a n cap (batch (.pointer (some ⟨bf, 0, none⟩)) (.pointer (some ⟨bf, 17, none⟩)) (.bool true) 0 0 0 0 0 (.slice none 0 0))
  unfold batch at hfx
  generalize (((w.alloc _).alloc _).alloc _).drew = W at *
  clear g0
  have HX := hid hfx
  have c1 := hfx.pf
  have c2 := hfx.px
  have c8 := hfx.cell H8.out
  clear hfx
  have HSUM := hid (sum_all key a n cap F W.drew hk.1 hk.2 hn' (HC.out.later (HX.out.below.drew)))
  obtain ⟨h, hh⟩ : ∃ h, sumF key F n = h := ⟨_, rfl⟩
  rw [hh] at HSUM
  have HH := hid hh
  clear hh
  go_region_held3 (fun w' => w'.cell? ⟨w.heap.size + 1, 0, none⟩ = some (.pointer (some ⟨bf, 0, none⟩)) ∧ w'.cell? ⟨w.heap.size + 1 + 1, 0, none⟩ = some (.slice a n cap) ∧ w'.cell? ⟨bf, 8, none⟩ = some (.int .u64 key)) (first | go_keep | exact ⟨HX2.out.pf, HX2.out.px, HX2.out.cell H8.out⟩ | exact ⟨HX3.out.pf, HX3.out.px, HX3.out.cell H8.out⟩)
    (first
      | (go_at_call 14; refine HSUM.out.mono ?_; rintro e w2 ⟨rfl, hb2⟩; have HX2 := hid (Fix.later (W := W.drew) (HX.out.later ((Below.refl _ _).drew)) hb2))
      | (go_at_call 27; refine (setProg_any w.heap.size _ _ _ _ 0 0 0 0 0 h w2 HX2.out.bat).mono ?_; rintro e w3 ⟨rfl, hg3, hs3, hb3⟩; have HX3 := hid (HX2.out.grown hg3 hb3)))
  clear HSUM hb2 HX2 hg3 hs3 hb3 HX c1 c2 c8
  have c1 := HX3.out.pf
  have c21 := HX3.out.cell H21.out
  go_wp2
  go_end0
  go_wp2
  go_ret
  exact ⟨rfl, HX3.out.below, by rw [HH.out]; exact HX3.out.bat⟩
#print axioms byKey_hashed
end Go.Proofs.Ybulkdaju
