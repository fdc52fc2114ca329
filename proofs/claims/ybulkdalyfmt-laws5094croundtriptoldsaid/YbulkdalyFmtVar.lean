/-
  'bigEndian' (17), 'varNumWidth' (16), 'readVarNum' (14), walked.
-/
import Derived.Test.YbulkdalyFmtBase
import Derived.BigQuiet
import Derived.Laws.BitsAll
namespace Go.Proofs.YbulkdalyFmt
open Go.RowKit
set_option maxRecDepth 100000 in
set_option maxHeartbeats 400000 in
theorem bigEndian_any (b off n c : Nat) (xs : List Int) (w : World) (hn : n ≤ 8) (hV : View w (some ⟨b, off, none⟩) n c xs) :
    Calls Ybaf.prog 17 #[.slice (some ⟨b, off, none⟩) n c] w fun e w' => e = .returned (.int .u64 (be xs)) ∧ w' = w := by
  obtain ⟨hl, hc, hc', hB, hV⟩ := hV
  have HC : Hid (∀ i, i < n → w.cell? ⟨b, off + i, none⟩ = some (.int .u8 (xs.getD i 0))) := by
    intro i hi
    obtain ⟨b', off', e, h⟩ := hV (by omega)
    simp at e; obtain ⟨rfl, rfl⟩ := e
    exact h i hi
  clear hV
  have HB := hid hB
  clear hB
  go_enter Ybaf.func17, Ybaf.ntmps17
  go_wp2
  go_loop [3, 8] (fun s t => ∃ (k : Nat) (v : Int), s = .int .u64 v ∧ t = .int .i64 k ∧ k ≤ n ∧ Hid (v = be (xs.take k))) (fun _ t => n - (intOf t).toNat)
  case atStart => exact ⟨0, 0, rfl, rfl, Nat.zero_le _, rfl⟩
  case round =>
    obtain ⟨k, v, rfl, rfl, hk, hv⟩ := hrel
    by_cases hlt : k < n
    · have hcl := HC.out k hlt
      have hx := HB.out.at (k := k) (by omega)
      have hvb := be_bd7 xs HB.out k (by omega) (by omega)
      rw [← hv.out] at hvb
      have HS := hid (be_take_succ xs k (by omega))
      generalize xs.getD k 0 = x at *
      go_wp2
      go_round
      case rel => exact ⟨k + 1, _, rfl, by go_num, by omega, by unfold Hid; rw [HS.out, ← hv.out]; go_bits2⟩
      case measure => simp [intOf]; omega
    · have hje : k = n := by omega
      subst hje
      have hx' := hv.out
      rw [hl, List.take_length] at hx'
      subst hx'
      go_wp2
      go_ret
      exact ⟨rfl, rfl⟩

#print axioms bigEndian_any
set_option maxHeartbeats 400000 in
theorem varNumWidth_any (f : Int) (w : World) : Calls Ybaf.prog 16 #[.int .u8 f] w fun e w' => e = .returned (.int .i64 (wid f)) ∧ w' = w := by
  unfold wid
  by_cases h1 : f = 253
  · subst h1
    go_enter Ybaf.func16, Ybaf.ntmps16
    go_wp2
    go_ret
    exact ⟨rfl, rfl⟩
  · by_cases h2 : f = 254
    · subst h2
      go_enter Ybaf.func16, Ybaf.ntmps16
      go_wp2
      go_ret
      exact ⟨rfl, rfl⟩
    · by_cases h3 : f = 255
      · subst h3
        go_enter Ybaf.func16, Ybaf.ntmps16
        go_wp2
        go_ret
        exact ⟨rfl, rfl⟩
      · rw [if_neg h1, if_neg h2, if_neg h3]
        go_enter Ybaf.func16, Ybaf.ntmps16
        go_wp2
        go_ret
        exact ⟨rfl, rfl⟩

/-- What readVarNum answers. -/
def VarAns (w : World) (q : Option (Int × List Int)) (er : Value) (e : Ending) : Prop :=
  match q with
  | none => e = .returned (.tuple #[.int .u64 0, .slice none 0 0, er])
  | some (v, r) => ∃ b' o' n' c', e = .returned (.tuple #[.int .u64 v, .slice (some ⟨b', o', none⟩) n' c', .nilIface]) ∧ View w (some ⟨b', o', none⟩) n' c' r
set_option maxRecDepth 100000 in
set_option maxHeartbeats 400000 in
theorem readVarNum_any (a : Option Addr) (n c : Nat) (xs : List Int) (eT : TypeId) (eV : Value) (w0 w : World) (hg : w.cell? ⟨0, 0, none⟩ = some (.iface eT eV)) (hV : View w0 a n c xs) (hb : Below w0.heap.size w0 w) :
    Calls Ybaf.prog 14 #[.slice a n c] w fun e w' => VarAns w0 (varF xs) (.iface eT eV) e ∧ ∃ d, w' = w.drewN d := by
  match xs with
  | [] =>
    obtain ⟨hl, _⟩ := hV
    simp at hl
    subst hl
    go_enter Ybaf.func14, Ybaf.ntmps14
    go_wp2
    go_quiet (fail)
    go_wp2
    go_ret3
    exact ⟨rfl, _, rfl⟩
  | f :: r =>
    have HV := hid hV
    have HVw := hid (hV.later hb)
    have hV := hV.later hb
    clear hb
    obtain ⟨hl, hc, hc', hB, hV⟩ := hV
    have hf := hB f (by simp)
    simp at hl
    obtain ⟨b, off, rfl, hcell⟩ := hV (by omega)
    have hc0 := hcell 0 (by omega)
    simp at hc0
    clear hV hcell hB
    obtain ⟨u, hu⟩ : ∃ u, wid f = u := ⟨_, rfl⟩
    have hu8 := wid_le f
    have HW := hid (varNumWidth_any f w)
    have hq : varF (f :: r) = if u = 0 then some (f, r) else if r.length < u then none else some (be (r.take u), r.drop u) := by rw [← hu]; rfl
    rw [hu] at HW hu8
    clear hu
    by_cases hu0 : u = 0
    · subst hu0
      rw [if_pos rfl] at hq
      rw [hq]
      clear hq
      by_cases hc1 : c = 1
      · subst hc1
        have : n = 1 := by omega
        subst this
        have hr : r = [] := List.eq_nil_of_length_eq_zero (by omega)
        subst hr
        clear hl hc hc' HV HVw
        go_enter Ybaf.func14, Ybaf.ntmps14
        go_wp2_with (go_at_call 16; refine HW.out.mono ?_; rintro e w' ⟨rfl, rfl⟩)
        go_quiet (fail)
        go_wp2
        go_ret3
        exact ⟨⟨_, _, _, _, rfl, View.empty _ _ _ (by omega)⟩, _, rfl⟩
      · go_enter Ybaf.func14, Ybaf.ntmps14
        go_wp2_with (go_at_call 16; refine HW.out.mono ?_; rintro e w' ⟨rfl, rfl⟩)
        go_quiet (fail)
        go_wp2
        go_ret3
        refine ⟨⟨_, _, _, _, rfl, ?_⟩, _, rfl⟩
        have := HV.out.part 1 r.length (some ⟨b, off + 1, none⟩) (c - 1) (by omega) (fun _ => rfl) ⟨by omega, by omega⟩
        simpa [hl] using this
    · rw [if_neg hu0] at hq
      by_cases hs : r.length < u
      · rw [if_pos hs] at hq
        rw [hq]
        clear hq
        go_enter Ybaf.func14, Ybaf.ntmps14
        go_wp2_with (go_at_call 16; refine HW.out.mono ?_; rintro e w' ⟨rfl, rfl⟩)
        go_quiet (fail)
        go_wp2
        go_ret3
        exact ⟨rfl, _, rfl⟩
      · rw [if_neg hs] at hq
        rw [hq]
        clear hq
        have HP := hid (HVw.out.part 1 u (some ⟨b, off + 1, none⟩) (c - 1) (by omega) (fun _ => rfl) ⟨by omega, by omega⟩)
        simp at HP
        have HE : Hid (∀ d, Calls Ybaf.prog 17 #[.slice (some ⟨b, off + 1, none⟩) u (c - 1)] (w.drewN d) fun e w' => e = .returned (.int .u64 (be (r.take u))) ∧ w' = w.drewN d) := fun d => bigEndian_any b (off + 1) u (c - 1) _ _ hu8 (HP.out.drewN d)
        obtain ⟨m, hm⟩ : ∃ m, 1 + u = m := ⟨_, rfl⟩
        have hw1 : IntKind.i64.wrap (1 + (u : Int)) = (m : Int) := by rw [IntKind.wrap_i64]; omega
        have l1 : (1 : Int) ≤ (m : Int) := by omega
        have l2 : (m : Int) ≤ (c : Int) := by omega
        have l3 : (m : Int) ≤ (n : Int) := by omega
        have l4 : m - 1 = u := by omega
        have l5 : ¬ (n : Int) < (m : Int) := by omega
        have l6 : ¬ c = 1 := by omega
        have HL := hid hl
        have HM := hid hm
        clear hl hm hs
        by_cases hc1 : c = m
        · subst hc1
          have l7 : n = c := by omega
          subst l7
          have E1 : Hid (View w0 (some ⟨b, off, none⟩) 0 0 (r.drop u)) := by
            have e1 : r.drop u = [] := List.drop_eq_nil_of_le (by have := HL.out; have := HM.out; omega)
            unfold Hid
            rw [e1]
            exact View.empty _ _ 0 (by omega)
          clear l2 l3
          rw [l4] at HE
          go_enter Ybaf.func14, Ybaf.ntmps14
          go_wp2_with (go_at_call 16; refine HW.out.mono ?_; rintro e w' ⟨rfl, rfl⟩)
          go_quiet ((go_at_call 17; exact Calls.quiet_of_same (HE.out _)))
          go_wp2
          go_ret3
          refine ⟨⟨_, _, _, _, rfl, ?_⟩, _, rfl⟩
          exact E1.out
        · have H3 : Hid (View w0 (some ⟨b, off + m, none⟩) (n - m) (c - m) (r.drop u)) := by
            have h1 := HL.out
            have h2 := HM.out
            have h3 := HV.out.part m (n - m) (some ⟨b, off + m, none⟩) (c - m) (by omega) (fun _ => rfl) ⟨by omega, by omega⟩
            have e1 : ((f :: r).drop m).take (n - m) = r.drop u := by
              rw [← h2, Nat.add_comm 1 u, List.drop_succ_cons, List.take_of_length_le (by simp; omega)]
            rwa [e1] at h3
          go_enter Ybaf.func14, Ybaf.ntmps14
          go_wp2_with (go_at_call 16; refine HW.out.mono ?_; rintro e w' ⟨rfl, rfl⟩)
          go_quiet ((go_at_call 17; exact Calls.quiet_of_same (HE.out _)))
          go_wp2
          go_ret3
          refine ⟨⟨_, _, _, _, rfl, ?_⟩, _, rfl⟩
          exact H3.out
#print axioms readVarNum_any
end Go.Proofs.YbulkdalyFmt
