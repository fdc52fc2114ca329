/-
  'LawS5094CModel' (3), walked: it answers true.
-/
import Derived.Test.YbulkdalyFmtModel
import Derived.Test.YbulkdalyFmtClone
namespace Go.Proofs.YbulkdalyFmt
open Go.RowKit
open Go.Extern.Stop Go.Stop Go.Extern
theorem DecAns.no {w0 : World} {base : Nat} {w : World} {e : Ending} (h : DecAns w0 base w none e) : ∃ t u, e = .returned (.tuple #[.slice none 0 0, .iface t u]) := h
theorem DecAns.yes {w0 : World} {base : Nat} {w : World} {cs : List (Int × List Int)} {e : Ending} (h : DecAns w0 base w (some cs) e) : ∃ v, e = .returned (.tuple #[v, .nilIface]) ∧ Comps w0 base w v cs := h
theorem ModAns.no {w0 : World} {base : Nat} {w : World} {e : Ending} (h : ModAns w0 base w none e) : e = .returned (.tuple #[.slice none 0 0, .bool false]) := h
theorem ModAns.yes {w0 : World} {base : Nat} {w : World} {cs : List (Int × List Int)} {e : Ending} (h : ModAns w0 base w (some cs) e) : ∃ v, e = .returned (.tuple #[v, .bool true]) ∧ Comps w0 base w v cs := h
theorem decN_len : ∀ (m : Nat) (xs : List Int) (cs : List (Int × List Int)), decN m xs = some cs → cs.length ≤ m
  | 0, _, cs, h => by simp [decN] at h; subst h; simp
  | m + 1, xs, cs, h => by
    unfold decN at h
    split at h
    · simp at h; subst h; simp
    · split at h
      · cases h
      · rename_i t v r _
        split at h
        · split at h
          · cases h
          · rename_i ds hd
            simp at h; subst h
            have := decN_len m r ds hd
            simp; omega
        · cases h
theorem decF_len {xs : List Int} {cs : List (Int × List Int)} (h : decF xs = some cs) : cs.length ≤ xs.length := decN_len _ _ _ h
set_option maxRecDepth 100000 in
set_option maxHeartbeats 400000 in
theorem model_law (F : Interp) (a : Option Addr) (n c : Nat) (xs : List Int) (eT : TypeId) (eV : Value) (w : World) (hF : F.answers w.tape) (hg : w.cell? ⟨0, 0, none⟩ = some (.iface eT eV)) (hV : View w a n c xs) (hnil : a = none → c = 0) :
    Calls Ybaf.prog 3 #[.slice a n c] w fun e w' => e = .returned (.bool true) ∧ Below w.heap.size w w' := by
  by_cases hn : 4096 < n
  · have hc := hV.2.1
    have hc' := hV.2.2.1
    clear hV hF hg hnil
    go_enter Ybaf.func3, Ybaf.ntmps3
    go_wp2
    go_ret
    exact ⟨rfl, Below.refl _ _⟩
  · have HC := hid (clone_any a n c xs w hV hnil (by omega))
    have hc := hV.2.1
    have hc' := hV.2.2.1
    have hxl : xs.length ≤ 4096 := by have := hV.1; omega
    have HV := hid hV
    have HF := hid hF
    have HG := hid hg
    have HX := hid hxl
    clear hV hnil hF hg hxl
    cases hd : decF xs with
    | none =>
      go_enter Ybaf.func3, Ybaf.ntmps3
      go_wp2_with (first
        | (go_at_call 5; refine HC.out.mono ?_; rintro e w1 ⟨a1, c1, rfl, hv1, hb1⟩; have HV1 := hid hv1; have HB1 := hid hb1; clear hv1 hb1)
        | (go_at_call 6; refine Calls.mono (decodeName_any F a1 n c1 xs eT eV w1 w1 (by rw [HB1.out.tape]; exact HF.out) ((HB1.out.cell (p := ⟨0, 0, none⟩) (World.block_lt_of_cell? w _ HG.out)).trans HG.out) HV1.out (Below.refl _ _) (by omega)) ?_; rintro e w2 ⟨h2, hb2⟩; rw [hd] at h2; obtain ⟨et, eu, rfl⟩ := h2.no; have HB2 := hid (below_step HB1.out hb2); have HV2 := hid (HV1.out.later hb2); clear h2 hb2)
        | (go_at_call 7; refine Calls.mono (cmodel_any a n c xs w2 (HV.out.later HB2.out) (by omega)) ?_; rintro e w3 ⟨h3, hb3⟩; rw [hd] at h3; obtain rfl := h3.no; have HB3 := hid (below_step HB2.out hb3); have HV3 := hid (HV2.out.later hb3); clear h3 hb3)
        | (go_at_call 8; refine Calls.mono (equal_same _ _ _ _ _ _ xs w3 HV3.out (HV.out.later HB3.out)) ?_; rintro e w4 ⟨rfl, hw4⟩; obtain rfl := hw4.symm))
      go_ret
      exact ⟨rfl, HB3.out⟩
    | some cs =>
      have hcl := decF_len hd
      have hcl' : cs.length ≤ 4000000 := by have := HX.out; omega
      clear hcl
      go_enter Ybaf.func3, Ybaf.ntmps3
      go_wp2_with (first
        | (go_at_call 5; refine HC.out.mono ?_; rintro e w1 ⟨a1, c1, rfl, hv1, hb1⟩; have HV1 := hid hv1; have HB1 := hid hb1; clear hv1 hb1)
        | (go_at_call 6; refine Calls.mono (decodeName_any F a1 n c1 xs eT eV w1 w1 (by rw [HB1.out.tape]; exact HF.out) ((HB1.out.cell (p := ⟨0, 0, none⟩) (World.block_lt_of_cell? w _ HG.out)).trans HG.out) HV1.out (Below.refl _ _) (by omega)) ?_; rintro e w2 ⟨h2, hb2⟩; rw [hd] at h2; obtain ⟨v2, rfl, hc2⟩ := h2.yes; have HB12 := hid hb2; have HC2 := hid hc2; have HB2 := hid (below_step HB1.out hb2); have HV2 := hid (HV1.out.later hb2); clear h2 hb2 hc2)
        | (go_at_call 7; refine Calls.mono (cmodel_any a n c xs w2 (HV.out.later HB2.out) (by omega)) ?_; rintro e w3 ⟨h3, hb3⟩; rw [hd] at h3; obtain ⟨v3, rfl, hc3⟩ := h3.yes; have HB23 := hid hb3; have HC3 := hid hc3; have HC23 := hid (HC2.out.later hb3); have HB3 := hid (below_step HB2.out hb3); have HV3 := hid (HV2.out.later hb3); clear h3 hb3 hc3)
        | (go_at_call 8; refine Calls.mono (equal_same _ _ _ _ _ _ xs w3 HV3.out (HV.out.later HB3.out)) ?_; rintro e w4 ⟨rfl, hw4⟩; obtain rfl := hw4.symm)
        | (go_at_call 9; refine Calls.mono (csame_any w1 w2 _ _ v2 v3 cs w3 HC23.out (below_step HB12.out HB23.out) HC3.out HB23.out hcl') ?_; rintro e w5 ⟨rfl, d, rfl⟩))
      go_ret
      exact ⟨rfl, below_drewN HB3.out _⟩
#print axioms model_law
end Go.Proofs.YbulkdalyFmt
