/-
  'readElement' (11), walked.
-/
import Derived.Test.YbulkdalyFmtCheck
import Derived.Deep.RegionWith
import Derived.Deep.RegionHeld3
namespace Go.Proofs.YbulkdalyFmt
open Go.RowKit
open Go.Extern.Stop Go.Stop Go.Extern
/-- What readElement answers. -/
def ElAns (w : World) (q : Option (Int × List Int × List Int)) (e : Ending) : Prop :=
  match q with
  | none => ∃ t u, e = .returned (.tuple #[.agg #[.int .u64 0, .slice none 0 0], .slice none 0 0, .iface t u])
  | some (t, v, r) => ∃ b1 o1 n1 c1 b2 o2 n2 c2, e = .returned (.tuple #[.agg #[.int .u64 t, .slice (some ⟨b1, o1, none⟩) n1 c1], .slice (some ⟨b2, o2, none⟩) n2 c2, .nilIface]) ∧ View w (some ⟨b1, o1, none⟩) n1 c1 v ∧ View w (some ⟨b2, o2, none⟩) n2 c2 r
theorem VarAns.no {w : World} {er : Value} {e : Ending} (h : VarAns w none er e) : e = .returned (.tuple #[.int .u64 0, .slice none 0 0, er]) := h
theorem VarAns.yes {w : World} {v : Int} {r : List Int} {er : Value} {e : Ending} (h : VarAns w (some (v, r)) er e) : ∃ b' o' n' c', e = .returned (.tuple #[.int .u64 v, .slice (some ⟨b', o', none⟩) n' c', .nilIface]) ∧ View w (some ⟨b', o', none⟩) n' c' r := h
theorem below_two (w : World) (o : Obj) (d : Nat) (u v : Value) : Below w.heap.size w ((((w.alloc o).drewN d).setCell ⟨w.heap.size, 0, none⟩ u).setCell ⟨w.heap.size, 1, none⟩ v) :=
  ((below_drewN ((Below.refl _ _).alloc (Nat.le_refl _) _) d).setCell (Nat.le_refl _) _).setCell (Nat.le_refl _) _
theorem below_four (w : World) (o o2 o3 : Obj) (d : Nat) (u v : Value) : Below w.heap.size w ((((((w.alloc o).drewN d).setCell ⟨w.heap.size, 0, none⟩ u).setCell ⟨w.heap.size, 1, none⟩ v).alloc o2).alloc o3).drew :=
  (((below_two w o d u v).alloc (by simp [World.setCell, World.drewN]) _).alloc (by simp [World.setCell, World.drewN]; omega) _).drew
set_option maxRecDepth 100000 in
set_option maxHeartbeats 400000 in
theorem readElement_any (F : Interp) (a : Option Addr) (n c : Nat) (xs : List Int) (eT : TypeId) (eV : Value) (w0 w : World) (hF : F.answers w.tape) (hg : w.cell? ⟨0, 0, none⟩ = some (.iface eT eV)) (hV : View w0 a n c xs) (hb : Below w0.heap.size w0 w) :
    Calls Ybaf.prog 11 #[.slice a n c] w fun e w' => ElAns w0 (elF xs) e ∧ Below w.heap.size w w' := by
  have hF' : ∀ i name reading k range, w.tape i (.extern (word name reading k) range) = F name reading k := hF
  have hb1 := (Below.refl w.heap.size w).alloc (Nat.le_refl _) (.cells #[.int .u64 0, .slice none 0 0] 46)
  have hg1 := (hb1.cell (p := ⟨0, 0, none⟩) (World.block_lt_of_cell? w _ hg)).trans hg
  have HB := hid (hb.alloc hb.size (.cells #[.int .u64 0, .slice none 0 0] 46))
  have H1 := hid (readVarNum_any a n c xs eT eV w0 _ hg1 hV HB.out)
  have HG := hid hg1
  clear hg1 hg hb1
  cases h1 : varF xs with
  | none =>
    have he : elF xs = none := by unfold elF; rw [h1]
    rw [h1] at H1
    rw [he]
    go_enter Ybaf.func11, Ybaf.ntmps11
    go_wp2_with (go_at_call 14; refine H1.out.mono ?_; rintro e w' ⟨h, d, rfl⟩; obtain rfl := h.no)
    refine bodyPost_ret (v := .tuple #[.agg #[.int .u64 0, .slice none 0 0], .slice none 0 0, .iface eT eV]) (by simp [results, Ybaf.results11, go_sem]) rfl ⟨⟨_, _, rfl⟩, ?_⟩
    exact below_two _ _ _ _ _
  | some p => 
    obtain ⟨t, r⟩ := p
    rw [h1] at H1
    cases h2 : varF r with
    | none =>
      have he : elF xs = none := by unfold elF; rw [h1]; simp only [h2]
      rw [he]
      go_enter Ybaf.func11, Ybaf.ntmps11
      go_wp2_with (first 
        | (go_at_call_of 14 (Value.slice a n c); refine H1.out.mono ?_; rintro e w' ⟨h, d, rfl⟩; obtain ⟨b1, o1, n1, c1, rfl, hV1⟩ := h.yes; have H2 := hid (readVarNum_any _ n1 c1 r eT eV w0 (World.drewN (w.alloc (.cells #[.int .u64 0, .slice none 0 0] 46)) d) HG.out hV1 (below_drewN HB.out d)); rw [h2] at H2)
        | (go_at_call 14; refine H2.out.mono ?_; rintro e w' ⟨h, d2, rfl⟩; obtain rfl := h.no))
      refine bodyPost_ret (v := .tuple #[.agg #[.int .u64 0, .slice none 0 0], .slice none 0 0, .iface eT eV]) (by simp [results, Ybaf.results11, go_sem]) rfl ⟨⟨_, _, rfl⟩, ?_⟩
      exact below_two _ _ _ _ _
    | some p =>
      obtain ⟨l, r2⟩ := p
      have hby := varF_byt hV.2.2.2.1 h1
      have hbz := varF_byt hby.1 h2
      by_cases hlt : (r2.length : Int) < l
      · have he : elF xs = none := by unfold elF; rw [h1]; simp only [h2, if_pos hlt]
        rw [he]
        go_enter Ybaf.func11, Ybaf.ntmps11
        go_wp2_with (first 
          | (go_at_call_of 14 (Value.slice a n c); refine H1.out.mono ?_; rintro e w' ⟨h, d, rfl⟩; obtain ⟨b1, o1, n1, c1, rfl, hV1⟩ := h.yes; have H2 := hid (readVarNum_any _ n1 c1 r eT eV w0 (World.drewN (w.alloc (.cells #[.int .u64 0, .slice none 0 0] 46)) d) HG.out hV1 (below_drewN HB.out d)); rw [h2] at H2)
          | (go_at_call 14; refine H2.out.mono ?_; rintro e w' ⟨h, d2, rfl⟩; obtain ⟨b2, o2, n2, c2, rfl, hV2⟩ := h.yes; have e2 := hV2.1; have l2 := hV2.2.1; have l3 := hV2.2.2.1; have hlt' : (n2 : Int) < l := by rw [e2]; exact hlt))
        go_wp2
        refine bodyPost_ret (v := .tuple #[.agg #[.int .u64 0, .slice none 0 0], .slice none 0 0, .iface 60 (.pointer (some ⟨w.heap.size + 1 + 1, 0, none⟩))]) (by simp [results, Ybaf.results11, go_sem]) rfl ⟨⟨_, _, rfl⟩, ?_⟩
        exact below_four _ _ _ _ _ _ _
      · obtain ⟨L, rfl⟩ : ∃ L : Nat, l = L := ⟨l.toNat, by omega⟩
        have he : elF xs = some (t, r2.take L, r2.drop L) := by unfold elF; rw [h1]; simp only [h2, if_neg hlt]; rfl
        rw [he]
        have HLT := hid (Int.not_lt.1 hlt)
        have HBY := hid hby
        have HBZ := hid hbz
        clear hby hbz
        go_enter Ybaf.func11, Ybaf.ntmps11
        go_wp2_with (first 
          | (go_at_call_of 14 (Value.slice a n c); refine H1.out.mono ?_; rintro e w' ⟨h, d, rfl⟩; obtain ⟨b1, o1, n1, c1, rfl, hV1⟩ := h.yes; have H2 := hid (readVarNum_any _ n1 c1 r eT eV w0 (World.drewN (w.alloc (.cells #[.int .u64 0, .slice none 0 0] 46)) d) HG.out hV1 (below_drewN HB.out d)); rw [h2] at H2)
          | (go_at_call 14; refine H2.out.mono ?_; rintro e w' ⟨h, d2, rfl⟩; obtain ⟨b2, o2, n2, c2, rfl, hV2⟩ := h.yes; have e2 := hid hV2.1; have l2 := hV2.2.1; have l3 := hV2.2.2.1; have hlt' : ¬ (n2 : Int) < (L : Int) := (by rw [hV2.1]; exact Int.not_lt.2 HLT.out)))
        clear H1 H2 HG hF'
        have m1 : (L : Int) ≤ (n2 : Int) := by omega
        have m2 : (L : Int) ≤ (c2 : Int) := by omega
        have HA : Hid (View w0 (some ⟨b2, o2, none⟩) L c2 (r2.take L)) := by
          have := hV2.part 0 L (some ⟨b2, o2, none⟩) c2 (by omega) (fun _ => rfl) ⟨by omega, by omega⟩
          rwa [List.drop_zero] at this
        by_cases hc2 : c2 = L
        · have hn2 : n2 = L := by omega
          subst hc2 hn2
          have HZ : Hid (View w0 (some ⟨b2, o2, none⟩) 0 0 (r2.drop n2)) := by
            rw [List.drop_eq_nil_of_le (by rw [e2.out]; omega)]
            exact View.empty _ _ _ (by omega)
          clear l2 h2 hlt hlt' m1 m2
          have m1 : (n2 : Int) ≤ (n2 : Int) := Int.le_refl _
          go_region
          go_wp2
          refine bodyPost_ret (v := .tuple #[.agg #[.int .u64 t, .slice (some ⟨b2, o2, none⟩) n2 n2], .slice (some ⟨b2, o2, none⟩) 0 0, .nilIface]) (by simp [results, Ybaf.results11, go_sem]) rfl ⟨⟨_, _, _, _, _, _, _, _, rfl, HA.out, HZ.out⟩, below_two _ _ _ _ _⟩
        · have HZ : Hid (View w0 (some ⟨b2, o2 + L, none⟩) (n2 - L) (c2 - L) (r2.drop L)) := by
            have := hV2.part L (n2 - L) (some ⟨b2, o2 + L, none⟩) (c2 - L) (by omega) (fun _ => rfl) ⟨by omega, by omega⟩
            rwa [List.take_of_length_le (by rw [List.length_drop, e2.out]; omega)] at this
          go_region
          go_wp2
          refine bodyPost_ret (v := .tuple #[.agg #[.int .u64 t, .slice (some ⟨b2, o2, none⟩) L c2], .slice (some ⟨b2, o2 + L, none⟩) (n2 - L) (c2 - L), .nilIface]) (by simp [results, Ybaf.results11, go_sem]) rfl ⟨⟨_, _, _, _, _, _, _, _, rfl, HA.out, HZ.out⟩, below_two _ _ _ _ _⟩
#print axioms readElement_any
end Go.Proofs.YbulkdalyFmt
