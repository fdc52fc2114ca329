/-
  'bytes.Clone' (5), walked.
-/
import Derived.Test.YbulkdalyFmtSame
namespace Go.Proofs.YbulkdalyFmt
open Go.RowKit
@[go_sem] theorem eq22s (a : Addr) (n c : Nat) (w : World) : (binOp .eql 22 (.slice (some a) n c) (.slice none 0 0)).run Ybaf.prog w = .ok (.bool false) w := by kernel_rfl
@[go_sem] theorem eq22n (w : World) : (binOp .eql 22 (.slice none 0 0) (.slice none 0 0)).run Ybaf.prog w = .ok (.bool true) w := by kernel_rfl
theorem info5 : (Ybaf.prog.info? 5).map (fun i => (i.zero, i.size, i.bytes)) = some (some (.int .u8 0), 1, 1) := by kernel_rfl
/-- A row of bytes of the call's own is a view. -/
theorem own_view {w : World} {base : Nat} {v : Value} {n : Nat} {xs : List Int} (h : w.ownsRow base 5 1 v n (xs.map (Value.int .u8))) (hb : Byt xs) : ∃ a c, v = .slice a n c ∧ View w a n c xs := by
  have hl : n = xs.length := by have := h.1; simp at this; omega
  have h' := h
  obtain ⟨_, h⟩ := h
  rcases h with ⟨rfl, rfl⟩ | ⟨g, cap, cur, rfl, h1, h2, h3, h4, h5, h6⟩
  · have : xs = [] := List.eq_nil_of_length_eq_zero hl.symm
    subst this
    exact ⟨_, _, rfl, View.empty _ _ _ (by omega)⟩
  · refine ⟨_, _, rfl, hl, h3, by unfold maxLen at h4; omega, hb, fun _ => ⟨g, 0, rfl, fun i hi => ?_⟩⟩
    rw [Nat.zero_add, h'.cellAt i (by omega)]
    have hi' : i < xs.length := by omega
    simp [List.getD_eq_getElem?_getD, hi']
set_option maxRecDepth 100000 in
set_option maxHeartbeats 400000 in
theorem clone_any (a : Option Addr) (n c : Nat) (xs : List Int) (w : World) (hV : View w a n c xs) (hnil : a = none → c = 0) (hn : n ≤ 4096) :
    Calls Ybaf.prog 5 #[.slice a n c] w fun e w' => ∃ a' c', e = .returned (.slice a' n c') ∧ View w' a' n c' xs ∧ Below w.heap.size w w' := by
  obtain ⟨h1, h2, h3, h4, h5⟩ := hV
  cases a with
  | none =>
    have hc := hnil rfl
    subst hc
    have hn0 : n = 0 := by omega
    subst hn0
    have hx : xs = [] := List.eq_nil_of_length_eq_zero h1.symm
    subst hx
    clear h1 h2 h3 h4 h5 hnil hn
    go_enter Ybaf.func5, Ybaf.ntmps5
    go_wp2
    go_ret
    exact ⟨_, _, rfl, View.empty _ _ _ (by omega), Below.refl _ _⟩
  | some p =>
    have HNW : Hid (∀ j u, (xs.map (Value.int .u8))[j]? = some u → w.cell? (p.add j) = some u) := by
      intro j u hj
      have hjl : j < xs.length := by
        rcases Nat.lt_or_ge j xs.length with h | h
        · exact h
        · simp [h] at hj
      obtain ⟨b, off, e, hc⟩ := h5 (by omega)
      simp at e
      subst e
      have hp : (⟨b, off, none⟩ : Addr).add j = ⟨b, off + j, none⟩ := by simp [Addr.add]
      rw [hp, hc j (by omega)]
      simp [hjl] at hj
      subst hj
      simp [List.getD_eq_getElem?_getD, hjl]
    have HB := hid h4
    have HL := hid h1
    clear h5 h4 h1 hnil
    obtain ⟨i0, hi, hz0, hz1, hz2⟩ := info_parts info5
    have HO := hid (World.ownsRow_lit (base := w.heap.size) (e := 5) (size := 1) w #[] 0 (Nat.le_refl _) (by simp) rfl)
    have HL0 : Hid ((xs.map (Value.int .u8)).length = n * 1) := by have := HL.out; unfold Hid; simp; omega
    have HC1 : Hid (∀ j u, (xs.map (Value.int .u8))[j]? = some u → (w.alloc (.cells #[] 5)).cell? (p.add j) = some u) := fun j u hj =>
      (((Below.refl w.heap.size w).alloc (Nat.le_refl _) (.cells #[] 5)).cell (World.block_lt_of_cell? w _ (HNW.out j u hj))).trans (HNW.out j u hj)
    have HC2 : Hid (∀ u ∈ xs.map (Value.int .u8), u.oneCell' = true) := by intro u hu; simp at hu; obtain ⟨x, _, rfl⟩ := hu; rfl
    have h63 : 0 + n ≤ maxLen := by unfold maxLen; omega
    have h47 : (0 + n) * 1 ≤ 140737488355328 := by omega
    have HB1 := hid ((Below.refl w.heap.size w).alloc (Nat.le_refl _) (.cells #[] 5))
    go_enter Ybaf.func5, Ybaf.ntmps5
    go_wp2_with (at_builtin; refine wpList_append_own _ rfl (.tmp 5) (.tmp 6) 22 rfl w.heap.size 5 i0 _ 1 1 Ybaf.underlying22 hi hz0 hz1 hz2 rfl (by decide) _ _ _ rfl HO.out p n c (xs.map (Value.int .u8)) rfl HL0.out HC1.out HC2.out h63 h47 HB1.out.size ?_; intro v' w1 hown' hgrow hne; have HV := hid (own_view hown' HB.out); have HW := hid (HB1.out.grown hgrow HB1.out.size (fun k hk => (HO.out.lt k hk).1)); clear hown' hgrow hne)
    obtain ⟨a', c', rfl, hv⟩ := HV.out
    go_ret
    exact ⟨a', c', by rw [Nat.zero_add]; rfl, by rwa [Nat.zero_add] at hv, HW.out⟩
#print axioms clone_any
end Go.Proofs.YbulkdalyFmt
