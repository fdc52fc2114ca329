/-
  Rows of components in memory: what decodeName, the model and the law's own loop build. No walk.
-/
import Derived.Test.YbulkdalyFmtElem
namespace Go.Proofs.YbulkdalyFmt
open Go.RowKit
/-- The value is a slice, not nil, that reads as the bytes xs. -/
def SV (w : World) (s : Value) (xs : List Int) : Prop := ∃ b o n c, s = .slice (some ⟨b, o, none⟩) n c ∧ View w (some ⟨b, o, none⟩) n c xs
theorem SV.later {w w' : World} {s : Value} {xs : List Int} (h : SV w s xs) (hb : Below w.heap.size w w') : SV w' s xs := by
  obtain ⟨b, o, n, c, e, hv⟩ := h
  exact ⟨b, o, n, c, e, hv.later hb⟩
/-- Component by component. -/
def Rel (w : World) : List (Int × Value) → List (Int × List Int) → Prop
  | [], [] => True
  | p :: ps, c :: cs => p.1 = c.1 ∧ SV w p.2 c.2 ∧ Rel w ps cs
  | _, _ => False
theorem Rel.later {w w' : World} (hb : Below w.heap.size w w') : ∀ {ps : List (Int × Value)} {cs : List (Int × List Int)}, Rel w ps cs → Rel w' ps cs
  | [], [], _ => trivial
  | _ :: _, _ :: _, h => ⟨h.1, h.2.1.later hb, Rel.later hb h.2.2⟩
theorem Rel.len {w : World} : ∀ {ps : List (Int × Value)} {cs : List (Int × List Int)}, Rel w ps cs → ps.length = cs.length
  | [], [], _ => rfl
  | _ :: _, _ :: _, h => by simp [Rel.len h.2.2]
theorem Rel.snoc {w : World} {t : Int} {s : Value} {xs : List Int} (hs : SV w s xs) : ∀ {ps : List (Int × Value)} {cs : List (Int × List Int)}, Rel w ps cs → Rel w (ps ++ [(t, s)]) (cs ++ [(t, xs)])
  | [], [], _ => ⟨rfl, hs, trivial⟩
  | _ :: _, _ :: _, h => ⟨h.1, h.2.1, Rel.snoc hs h.2.2⟩
theorem Rel.get {w : World} : ∀ {ps : List (Int × Value)} {cs : List (Int × List Int)}, Rel w ps cs → ∀ k, k < cs.length → (ps.getD k (0, undef)).1 = (cs.getD k (0, [])).1 ∧ SV w (ps.getD k (0, undef)).2 (cs.getD k (0, [])).2
  | [], [], _, _, hk => absurd hk (by simp)
  | _ :: _, _ :: _, h, 0, _ => by simpa using ⟨h.1, h.2.1⟩
  | _ :: ps, _ :: cs, h, k + 1, hk => by
    have := Rel.get h.2.2 k (by simpa using hk)
    simpa using this
/-- The cells of a row of components. -/
def flat (ps : List (Int × Value)) : List Value := ps.flatMap fun p => [.int .u64 p.1, p.2]
theorem flat_snoc (ps : List (Int × Value)) (t : Int) (s : Value) : flat (ps ++ [(t, s)]) = flat ps ++ [.int .u64 t, s] := by simp [flat]
theorem flat_len (ps : List (Int × Value)) : (flat ps).length = ps.length * 2 := by
  induction ps with
  | nil => rfl
  | cons p ps ih => simp [flat] at ih ⊢; omega
theorem flat_get0 : ∀ (ps : List (Int × Value)) (k : Nat), k < ps.length → (flat ps)[2 * k]? = some (.int .u64 (ps.getD k (0, undef)).1)
  | _ :: _, 0, _ => rfl
  | p :: ps, k + 1, h => by
    have := flat_get0 ps k (by simpa using h)
    have e : 2 * (k + 1) = 2 * k + 2 := by omega
    rw [e]
    simpa [flat] using this
theorem flat_get1 : ∀ (ps : List (Int × Value)) (k : Nat), k < ps.length → (flat ps)[2 * k + 1]? = some (ps.getD k (0, undef)).2
  | _ :: _, 0, _ => rfl
  | p :: ps, k + 1, h => by
    have := flat_get1 ps k (by simpa using h)
    have e : 2 * (k + 1) + 1 = (2 * k + 1) + 2 := by omega
    rw [e]
    simpa [flat] using this
/-- v is a row of the call's own (blocks from base on), not nil, of the components cs; their values are read in w0. -/
def Comps (w0 : World) (base : Nat) (w : World) (v : Value) (cs : List (Int × List Int)) : Prop :=
  ∃ g cap ps, v = .slice (some ⟨g, 0, none⟩) cs.length cap ∧ w.ownsRow base 43 2 v cs.length (flat ps) ∧ Rel w0 ps cs
theorem grownOfBelow {w w' : World} (h : Below w.heap.size w w') (r : Option Nat) : w.grownBy w' r := ⟨h.os, h.tape, h.output, h.size, fun k hk _ => h.block k hk⟩
theorem Comps.later {w0 : World} {base : Nat} {w w' : World} {v : Value} {cs : List (Int × List Int)} (h : Comps w0 base w v cs) (hb : Below w.heap.size w w') : Comps w0 base w' v cs := by
  obtain ⟨g, cap, ps, rfl, ho, hr⟩ := h
  exact ⟨g, cap, ps, rfl, ho.kept (grownOfBelow hb none) (Or.inr (by simp [Value.ownBlock])), hr⟩
theorem Comps.grow {w0 : World} {base : Nat} {w' : World} {v' : Value} {cs : List (Int × List Int)} {ps : List (Int × Value)} {t : Int} {s : Value} {xs : List Int} (hr : Rel w0 ps cs) (hs : SV w0 s xs)
    (h : w'.ownsRow base 43 2 v' (cs.length + 1) (flat ps ++ [.int .u64 t, s])) (hne : ¬ v' = .slice none 0 0) : Comps w0 base w' v' (cs ++ [(t, xs)]) := by
  obtain ⟨hl, h⟩ := h
  rcases h with ⟨e, _⟩ | ⟨g, cap, cur, rfl, h1, h2, h3, h4, h5, h6⟩
  · exact absurd e hne
  · refine ⟨g, cap, ps ++ [(t, s)], by simp, ?_, hr.snoc hs⟩
    rw [flat_snoc]
    have e : (cs ++ [(t, xs)]).length = cs.length + 1 := by simp
    rw [e]
    exact ⟨hl, Or.inr ⟨g, cap, cur, rfl, h1, h2, h3, h4, h5, h6⟩⟩
/-- What decodeName answers. -/
def DecAns (w0 : World) (base : Nat) (w : World) (q : Option (List (Int × List Int))) (e : Ending) : Prop :=
  match q with
  | none => ∃ t u, e = .returned (.tuple #[.slice none 0 0, .iface t u])
  | some cs => ∃ v, e = .returned (.tuple #[v, .nilIface]) ∧ Comps w0 base w v cs
theorem ElAns.no {w : World} {e : Ending} (h : ElAns w none e) : ∃ t u, e = .returned (.tuple #[.agg #[.int .u64 0, .slice none 0 0], .slice none 0 0, .iface t u]) := h
theorem ElAns.yes {w : World} {t : Int} {v r : List Int} {e : Ending} (h : ElAns w (some (t, v, r)) e) : ∃ b1 o1 n1 c1 b2 o2 n2 c2, e = .returned (.tuple #[.agg #[.int .u64 t, .slice (some ⟨b1, o1, none⟩) n1 c1], .slice (some ⟨b2, o2, none⟩) n2 c2, .nilIface]) ∧ View w (some ⟨b1, o1, none⟩) n1 c1 v ∧ View w (some ⟨b2, o2, none⟩) n2 c2 r := h
theorem info43 : (Ybaf.prog.info? 43).map (fun i => (i.zero, i.size, i.bytes)) = some (some (.agg #[.int .u64 0, .slice none 0 0]), 2, 32) := by kernel_rfl
#print axioms Comps.grow
end Go.Proofs.YbulkdalyFmt
