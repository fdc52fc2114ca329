/-
  What make and copy leave in the round trip: a block of its own with the bytes, padded with zeros. No walk.
-/
import Derived.Test.YbulkdalyFmtKeep
import Derived.Deep.OwnRows
namespace Go.Proofs.YbulkdalyFmt
open Go.RowKit
/-- What 'make' has made and 'copy' then writes. -/
def copied (N lv : Nat) (xs : List Int) : List Int := xs.take N ++ List.replicate (N - Nat.min lv N) 0
theorem made_block (w1 : World) (N : Nat) : (w1.alloc (.cells (madeCells #[.int .u8 0] N) 5)).heap[w1.heap.size]? = some (.cells (List.replicate N (Value.int .u8 0)).toArray 5 (0, 0)) := by
  rw [heap_alloc_new]
  congr 2
  apply Array.ext'
  rw [toList_madeCells_one]
theorem copy_len {w : World} {av : Option Addr} {lv cv : Nat} {xs : List Int} (hv : View w av lv cv xs) (N : Nat) : ((xs.take N).map (Value.int .u8)).length = Nat.min lv N := by
  rw [List.length_map, List.length_take, hv.1, Nat.min_comm]
theorem copy_pos {w W : World} {av : Option Addr} {lv cv : Nat} {xs : List Int} (hv : View w av lv cv xs) (hb : Below w.heap.size w W) (N : Nat) (p : Option Addr) :
    0 < ((xs.take N).map (Value.int .u8)).length → p = p ∧ ∃ ad, av = some ad ∧ ∀ j v, ((xs.take N).map (Value.int .u8))[j]? = some v → W.cell? (ad.add j) = some v := by
  intro hpos
  obtain ⟨h1, h2, h3, h4, h5⟩ := hv.later hb
  have hl : 0 < xs.length := by rw [List.length_map, List.length_take] at hpos; omega
  obtain ⟨b, off, rfl, hc⟩ := h5 (by omega)
  refine ⟨rfl, _, rfl, fun j v hj => ?_⟩
  have hjl : j < (xs.take N).length := by
    rcases Nat.lt_or_ge j (xs.take N).length with h | h
    · exact h
    · rw [List.getElem?_eq_none (by rw [List.length_map]; exact h)] at hj; cases hj
  have hjx : j < xs.length := by rw [List.length_take] at hjl; omega
  have e : (⟨b, off, none⟩ : Addr).add j = ⟨b, off + j, none⟩ := by simp [Addr.add]
  rw [e, hc j (by omega)]
  rw [List.getElem?_map, List.getElem?_take_of_lt (by rw [List.length_take] at hjl; omega), List.getElem?_eq_getElem hjx] at hj
  simp at hj
  subst hj
  rw [List.getD_eq_getElem?_getD, List.getElem?_eq_getElem hjx]; rfl
theorem copy_splice {lv N : Nat} {xs : List Int} (hl : ((xs.take N).map (Value.int .u8)).length = Nat.min lv N) : splice (List.replicate N (Value.int .u8 0)) 0 ((xs.take N).map (Value.int .u8)) = (copied N lv xs).map (Value.int .u8) := by
  unfold copied splice
  rw [hl]
  simp
theorem copied_all {lv : Nat} {xs : List Int} (h : lv = xs.length) : copied lv lv xs = xs := by
  unfold copied
  have : Nat.min lv lv = lv := Nat.min_self lv
  rw [this, h]; simp
theorem copied_32 {lv : Nat} {xs : List Int} (h : lv = xs.length) : copied 32 lv xs = (xs ++ List.replicate 32 0).take 32 := by
  unfold copied
  have e : Nat.min lv 32 = min lv 32 := rfl
  rw [List.take_append, e, h]
  congr 1
  rw [List.take_replicate]
  congr 1
  omega
#print axioms copy_pos
end Go.Proofs.YbulkdalyFmt
