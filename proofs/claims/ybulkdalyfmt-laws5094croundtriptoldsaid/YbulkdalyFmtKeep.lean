/-
  The memory of the round trip's second loop: the wire, the row of wanted components, their values, each in a block of its own. No walk.
-/
import Derived.Test.YbulkdalyFmtCode
import Derived.Test.YbulkdalyFmtDec
import Derived.Laws.CopyOwn
namespace Go.Proofs.YbulkdalyFmt
open Go.RowKit
/-- s is a slice over a whole block that holds just the bytes xs; that block is not block r. -/
def RowV (w : World) (r : Option Nat) (s : Value) (xs : List Int) : Prop :=
  Byt xs ∧ xs.length ≤ 9223372036854775807 ∧ ∃ b, s = .slice (some ⟨b, 0, none⟩) xs.length xs.length ∧ w.heap[b]? = some (.cells (xs.map (Value.int .u8)).toArray 5 (0, 0)) ∧ some b ≠ r
theorem lt_heap {w : World} {b : Nat} {o : Obj} (h : w.heap[b]? = some o) : b < w.heap.size := by
  rcases Nat.lt_or_ge b w.heap.size with h' | h'
  · exact h'
  · rw [Array.getElem?_eq_none h'] at h; cases h
theorem RowV.step {w w' : World} {r r' : Option Nat} {s : Value} {xs : List Int} (h : RowV w r s xs) (hg : w.grownBy w' r) (hs : r' = r ∨ ∀ k, r' = some k → w.heap.size ≤ k) : RowV w' r' s xs := by
  obtain ⟨h1, h2, b, h3, h4, h5⟩ := h
  have hlt := lt_heap h4
  refine ⟨h1, h2, b, h3, (hg.block b hlt h5).trans h4, ?_⟩
  rcases hs with rfl | hs
  · exact h5
  · intro e
    have := hs b e.symm
    omega
theorem RowV.other {w w' : World} {r : Option Nat} {s : Value} {xs : List Int} {g : Nat} {cur : Array Value} (h : RowV w r s xs) (hg : w.grownBy w' (some g)) (hc : w.heap[g]? = some (.cells cur 43 (0, 0))) : RowV w' r s xs := by
  obtain ⟨h1, h2, b, h3, h4, h5⟩ := h
  have hne : some b ≠ some g := by
    intro e
    have e := Option.some.inj e
    subst e
    rw [h4] at hc
    simp at hc
  exact ⟨h1, h2, b, h3, (hg.block b (lt_heap h4) hne).trans h4, h5⟩
theorem RowV.later {w w' : World} {r : Option Nat} {s : Value} {xs : List Int} (h : RowV w r s xs) (hb : Below w.heap.size w w') : RowV w' r s xs := by
  obtain ⟨h1, h2, b, h3, h4, h5⟩ := h
  exact ⟨h1, h2, b, h3, (hb.block b (lt_heap h4)).trans h4, h5⟩
theorem RowV.cells {w : World} {b : Nat} {xs : List Int} (h : w.heap[b]? = some (.cells (xs.map (Value.int .u8)).toArray 5 (0, 0))) : ∀ j u, (xs.map (Value.int .u8))[j]? = some u → w.cell? ((⟨b, 0, none⟩ : Addr).add j) = some u := by
  intro j u hj
  have e : (⟨b, 0, none⟩ : Addr).add j = ⟨b, j, none⟩ := by simp [Addr.add]; exact fun h => h.symm
  rw [e, cell_of_row _ _ j _ 5 (0, 0) h]
  simpa using hj
theorem RowV.sv {w : World} {r : Option Nat} {s : Value} {xs : List Int} (h : RowV w r s xs) : SV w s xs := by
  obtain ⟨h1, h2, b, h3, h4, h5⟩ := h
  refine ⟨b, 0, xs.length, xs.length, h3, rfl, Nat.le_refl _, h2, h1, fun _ => ⟨b, 0, rfl, fun i hi => ?_⟩⟩
  rw [Nat.zero_add, cell_of_row _ _ i _ 5 (0, 0) h4]
  simp [List.getD_eq_getElem?_getD, hi]
/-- Component by component. -/
def RelW (w : World) (r : Option Nat) : List (Int × Value) → List (Int × List Int) → Prop
  | [], [] => True
  | p :: ps, c :: cs => p.1 = c.1 ∧ RowV w r p.2 c.2 ∧ RelW w r ps cs
  | _, _ => False
theorem RelW.imp {w w' : World} {r r' : Option Nat} (f : ∀ s xs, RowV w r s xs → RowV w' r' s xs) : ∀ {ps : List (Int × Value)} {cs : List (Int × List Int)}, RelW w r ps cs → RelW w' r' ps cs
  | [], [], _ => trivial
  | _ :: _, _ :: _, h => ⟨h.1, f _ _ h.2.1, RelW.imp f h.2.2⟩
theorem RelW.rel {w : World} {r : Option Nat} : ∀ {ps : List (Int × Value)} {cs : List (Int × List Int)}, RelW w r ps cs → Rel w ps cs
  | [], [], _ => trivial
  | _ :: _, _ :: _, h => ⟨h.1, h.2.1.sv, RelW.rel h.2.2⟩
theorem RelW.snoc {w : World} {r : Option Nat} {t : Int} {s : Value} {xs : List Int} (hs : RowV w r s xs) : ∀ {ps : List (Int × Value)} {cs : List (Int × List Int)}, RelW w r ps cs → RelW w r (ps ++ [(t, s)]) (cs ++ [(t, xs)])
  | [], [], _ => ⟨rfl, hs, trivial⟩
  | _ :: _, _ :: _, h => ⟨h.1, h.2.1, RelW.snoc hs h.2.2⟩
theorem RelW.last {w : World} {r : Option Nat} {t : Int} {s : Value} {xs : List Int} : ∀ {ps : List (Int × Value)} {cs : List (Int × List Int)}, ps.length = cs.length → RelW w r (ps ++ [(t, s)]) (cs ++ [(t, xs)]) → RowV w r s xs
  | [], [], _, h => h.2.1
  | _ :: ps, _ :: cs, hl, h => RelW.last (ps := ps) (cs := cs) (by simpa using hl) h.2.2
  | [], _ :: _, hl, _ => by simp at hl
  | _ :: _, [], hl, _ => by simp at hl
/-- The state: the wire holds ws, the wanted row the components ps; all values made so far are qs, they read as ds. -/
structure Enc (w wr : World) (vW vC : Value) (ws : List Int) (ps qs : List (Int × Value)) (ds : List (Int × List Int)) : Prop where
  wire : wr.ownsRow w.heap.size 5 1 vW ws.length (ws.map (Value.int .u8))
  want : wr.ownsRow w.heap.size 43 2 vC ps.length (flat ps)
  form : ∃ g cap cur, vC = .slice (some ⟨g, 0, none⟩) ps.length cap ∧ wr.heap[g]? = some (.cells cur 43 (0, 0))
  rel : RelW wr vW.ownBlock qs ds
  below : Below w.heap.size w wr
theorem Enc.start (w : World) : Enc w (w.alloc (.cells #[] 43)) (.slice none 0 0) (.slice (some ⟨w.heap.size, 0, none⟩) 0 0) [] [] [] [] :=
  ⟨World.ownsRow_nil _ _ _ _, World.ownsRow_lit w #[] 0 (Nat.le_refl _) (by simp) rfl, ⟨w.heap.size, 0, #[], rfl, heap_alloc_new w _⟩, trivial, (Below.refl _ _).alloc (Nat.le_refl _) _⟩
section
variable {w wr w2 : World} {vW vC : Value} {ws : List Int} {ps qs : List (Int × Value)} {ds : List (Int × List Int)}
theorem Enc.later (h : Enc w wr vW vC ws ps qs ds) (hb : Below wr.heap.size wr w2) : Enc w w2 vW vC ws ps qs ds := by
  obtain ⟨g, cap, cur, hv, hc⟩ := h.form
  refine ⟨h.wire.kept (grownOfBelow hb none) ?_, h.want.kept (grownOfBelow hb none) ?_, ⟨g, cap, cur, hv, (hb.block g (lt_heap hc)).trans hc⟩, h.rel.imp (fun _ _ hr => hr.later hb), below_step h.below hb⟩
  · cases vW.ownBlock <;> simp
  · cases vC.ownBlock <;> simp
theorem Enc.made (h : Enc w wr vW vC ws ps qs ds) (hb : Below wr.heap.size wr w2) {b : Nat} {t : Int} {xs : List Int} (hB : wr.heap.size ≤ b) (hr : w2.heap[b]? = some (.cells (xs.map (Value.int .u8)).toArray 5 (0, 0))) (hx : Byt xs) (hl : xs.length ≤ 9223372036854775807) :
    Enc w w2 vW vC ws ps (qs ++ [(t, .slice (some ⟨b, 0, none⟩) xs.length xs.length)]) (ds ++ [(t, xs)]) := by
  have h2 := h.later hb
  refine ⟨h2.wire, h2.want, h2.form, h2.rel.snoc ⟨hx, hl, b, rfl, hr, ?_⟩, h2.below⟩
  intro e
  have := (h.wire.lt b e.symm).2
  omega
theorem Enc.ne (h : Enc w wr vW vC ws ps qs ds) : vC.ownBlock ≠ vW.ownBlock := by
  obtain ⟨g, cap, cur, rfl, hc⟩ := h.form
  intro e
  have hw := h.wire.2
  rcases hw with ⟨rfl, _⟩ | ⟨g', cap', cur', rfl, _, hc', _⟩
  · simp [Value.ownBlock] at e
  · simp [Value.ownBlock] at e
    subst e
    rw [hc] at hc'
    simp at hc'
theorem Enc.onto (h : Enc w wr vW vC ws ps qs ds) {news : List Int} {v' : Value} (ho : Onto w.heap.size ws.length vW (ws.map (Value.int .u8)) news wr v' w2) : Enc w w2 v' vC (ws ++ news) ps qs ds := by
  obtain ⟨h1, h2, h3⟩ := ho
  have hne := h.ne
  have hf := h.form
  obtain ⟨g, cap, cur, hv, hc⟩ := hf
  have hgne : some g ≠ vW.ownBlock := by rw [hv] at hne; exact hne
  refine ⟨?_, h.want.kept h2 (Or.inr hne), ⟨g, cap, cur, hv, (h2.block g (lt_heap hc) hgne).trans hc⟩, h.rel.imp (fun _ _ hr => hr.step h2 h3), h.below.grown h2 h.below.size (fun k hk => (h.wire.lt k hk).1)⟩
  rw [List.length_append, List.map_append]
  exact h1
theorem Enc.grow (h : Enc w wr vW vC ws ps qs ds) {t : Int} {s : Value} (he : qs = ps ++ [(t, s)]) {v' : Value} {o : Obj} (ho : w2.ownsRow w.heap.size 43 2 v' (ps.length + 1) (flat ps ++ [.int .u64 t, s])) (hg : (wr.alloc o).grownBy w2 vC.ownBlock) (hne : ¬ v' = .slice none 0 0) : Enc w w2 vW v' ws qs qs ds := by
  have ha := h.later ((Below.refl wr.heap.size wr).alloc (Nat.le_refl _) o)
  obtain ⟨g, cap, cur, hv, hc⟩ := ha.form
  have hne2 := ha.ne
  have hl : qs.length = ps.length + 1 := by rw [he]; simp
  rw [hv] at hg
  refine ⟨ha.wire.kept hg (Or.inr fun e => hne2 (by rw [hv]; exact e.symm)), ?_, ?_, ha.rel.imp (fun _ _ hr => hr.other hg hc), ha.below.grown hg ha.below.size (fun k hk => (ha.want.lt k (by rw [hv]; exact hk)).1)⟩
  · rw [hl, he, flat_snoc]; exact ho
  · rcases ho.2 with ⟨e, _⟩ | ⟨g', cap', cur', e, _, hc', _⟩
    · exact absurd e hne
    · exact ⟨g', cap', cur', by rw [hl]; exact e, hc'⟩
theorem Enc.comps (h : Enc w wr vW vC ws qs qs ds) : Comps wr w.heap.size wr vC ds := by
  have hl := h.rel.rel.len
  obtain ⟨g, cap, cur, hv, hc⟩ := h.form
  refine ⟨g, cap, qs, by rw [← hl]; exact hv, by rw [← hl]; exact h.want, h.rel.rel⟩
end
#print axioms Enc.grow
end Go.Proofs.YbulkdalyFmt
