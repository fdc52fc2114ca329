/-
  'Component.check' (12), walked.
-/
import Derived.Test.YbulkdalyFmtStop
namespace Go.Proofs.YbulkdalyFmt
open Go.RowKit
open Go.Extern.Stop Go.Stop Go.Extern
def IsErr (e : Value) : Prop := ∃ t u, e = .iface t u
theorem okF_zero (v : List Int) : okF 0 v = false := rfl
theorem okF_big {t : Int} (v : List Int) (h : 65535 < t) : okF t v = false := by unfold okF; simp [h]
theorem okF_dig {t : Int} (v : List Int) (h : t = 1 ∨ t = 2) (hv : ¬ v.length = 32) : okF t v = false := by unfold okF; rcases h with rfl | rfl <;> simp [hv]
theorem okF_ok {t : Int} (v : List Int) (h0 : ¬ t = 0) (h1 : ¬ 65535 < t) (h2 : ¬ ((t = 1 ∨ t = 2) ∧ ¬ v.length = 32)) : okF t v = true := by
  unfold okF
  by_cases h3 : t = 1 ∨ t = 2
  · have : v.length = 32 := by
      rcases Nat.decEq v.length 32 with h | h
      · exact absurd ⟨h3, h⟩ h2
      · exact h
    rcases h3 with rfl | rfl <;> simp [this]
  · have a : ¬ t = 1 := fun h => h3 (Or.inl h)
    have b : ¬ t = 2 := fun h => h3 (Or.inr h)
    simp [h0, a, b]; omega
def CheckAns (ok : Bool) (e : Ending) : Prop := match ok with
  | true => e = .returned .nilIface
  | false => ∃ t u, e = .returned (.iface t u)
theorem below3 (w : World) (o1 o2 o3 : Obj) : Below w.heap.size w (((w.alloc o1).alloc o2).alloc o3).drew :=
  ((((Below.refl _ _).alloc (Nat.le_refl _) _).alloc (by simp) _).alloc (by simp; omega) _).drew
set_option maxRecDepth 100000 in
set_option maxHeartbeats 400000 in
theorem check_any (F : Interp) (t : Int) (a : Option Addr) (n c : Nat) (xs : List Int) (w : World) (hF : F.answers w.tape) (hl : n = xs.length) (hn : n ≤ 9223372036854775807) :
    Calls Ybaf.prog 12 #[.agg #[.int .u64 t, .slice a n c]] w fun e w' => CheckAns (okF t xs) e ∧ Below w.heap.size w w' := by
  have hF' : ∀ i name reading k range, w.tape i (.extern (word name reading k) range) = F name reading k := hF
  by_cases h0 : t = 0
  · subst h0
    rw [okF_zero]
    go_enter Ybaf.func12, Ybaf.ntmps12
    go_wp2
    go_ret
    go_wp2
    exact ⟨⟨_, _, rfl⟩, below3 _ _ _ _⟩
  · by_cases h1 : 65535 < t
    · rw [okF_big xs h1]
      go_enter Ybaf.func12, Ybaf.ntmps12
      go_wp2
      go_ret
      go_wp2
      exact ⟨⟨_, _, rfl⟩, below3 _ _ _ _⟩
    · by_cases h2 : (t = 1 ∨ t = 2) ∧ ¬ n = 32
      · rw [okF_dig xs h2.1 (by rw [← hl]; exact h2.2)]
        have h2' : ¬ (n : Int) = 32 := by omega
        obtain ⟨h2, h3⟩ := h2
        clear hl
        rcases h2 with rfl | rfl
        · go_enter Ybaf.func12, Ybaf.ntmps12
          go_wp2
          go_ret
          go_wp2
          exact ⟨⟨_, _, rfl⟩, below3 _ _ _ _⟩
        · go_enter Ybaf.func12, Ybaf.ntmps12
          go_wp2
          go_ret
          go_wp2
          exact ⟨⟨_, _, rfl⟩, below3 _ _ _ _⟩
      · rw [okF_ok xs h0 h1 (by rw [← hl]; exact h2)]
        clear hl
        by_cases e1 : t = 1
        · have h32 : n = 32 := by rcases Nat.decEq n 32 with h | h; exact absurd ⟨Or.inl e1, h⟩ h2; exact h
          subst e1 h32
          go_enter Ybaf.func12, Ybaf.ntmps12
          go_wp2
          go_ret
          exact ⟨rfl, (Below.refl _ _).alloc (Nat.le_refl _) _⟩
        · by_cases e2 : t = 2
          · have h32 : n = 32 := by rcases Nat.decEq n 32 with h | h; exact absurd ⟨Or.inr e2, h⟩ h2; exact h
            subst e2 h32
            go_enter Ybaf.func12, Ybaf.ntmps12
            go_wp2
            go_ret
            exact ⟨rfl, (Below.refl _ _).alloc (Nat.le_refl _) _⟩
          · clear h2
            go_enter Ybaf.func12, Ybaf.ntmps12
            go_wp2
            go_ret
            exact ⟨rfl, (Below.refl _ _).alloc (Nat.le_refl _) _⟩
#print axioms check_any
end Go.Proofs.YbulkdalyFmt
