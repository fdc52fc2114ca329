/-
  'zzs5094csame' (9), walked.
-/
import Derived.Test.YbulkdalyFmtEqual
namespace Go.Proofs.YbulkdalyFmt
open Go.RowKit
theorem Comps.at {w0 : World} {base : Nat} {w : World} {g cap : Nat} {ps : List (Int × Value)} {cs : List (Int × List Int)} (ho : w.ownsRow base 43 2 (.slice (some ⟨g, 0, none⟩) cs.length cap) cs.length (flat ps)) (hr : Rel w0 ps cs) (hb : Below w0.heap.size w0 w) (k : Nat) (hk : k < cs.length) :
    ∃ b o n c, w.cell? ⟨g, k * 2, none⟩ = some (.int .u64 (cs.getD k (0, [])).1) ∧ w.cell? ⟨g, k * 2 + 1, none⟩ = some (.slice (some ⟨b, o, none⟩) n c) ∧ View w (some ⟨b, o, none⟩) n c (cs.getD k (0, [])).2 := by
  have hl := hr.len
  have h := hr.get k hk
  obtain ⟨b, o, n, c, e, hv⟩ := h.2
  refine ⟨b, o, n, c, ?_, ?_, hv.later hb⟩
  · rw [ho.cellAt _ (by omega), Nat.mul_comm, flat_get0 ps k (by omega), h.1]
  · rw [ho.cellAt _ (by omega), Nat.mul_comm, flat_get1 ps k (by omega), e]
@[go_sem] theorem eq25s (a : Addr) (n c : Nat) (w : World) : (binOp .eql 25 (.slice (some a) n c) (.slice none 0 0)).run Ybaf.prog w = .ok (.bool false) w := by kernel_rfl
@[go_sem] theorem eq25n (w : World) : (binOp .eql 25 (.slice none 0 0) (.slice none 0 0)).run Ybaf.prog w = .ok (.bool true) w := by kernel_rfl
set_option maxRecDepth 100000 in
set_option maxHeartbeats 400000 in
theorem csame_any (w1 w2 : World) (base1 base2 : Nat) (v1 v2 : Value) (cs : List (Int × List Int)) (w : World) (h1 : Comps w1 base1 w v1 cs) (hb1 : Below w1.heap.size w1 w) (h2 : Comps w2 base2 w v2 cs) (hb2 : Below w2.heap.size w2 w) (hn : cs.length ≤ 4000000) :
    Calls Ybaf.prog 9 #[v1, v2] w fun e w' => e = .returned (.bool true) ∧ ∃ d, w' = w.drewN d := by
  obtain ⟨g1, p1, ps1, rfl, ho1, hr1⟩ := h1
  obtain ⟨g2, p2, ps2, rfl, ho2, hr2⟩ := h2
  have HA := hid (Comps.at ho1 hr1 hb1)
  have HB := hid (Comps.at ho2 hr2 hb2)
  clear ho1 hr1 hb1 ho2 hr2 hb2
  obtain ⟨N, hN⟩ : ∃ N, cs.length = N := ⟨_, rfl⟩
  have HN := hid hN
  rw [hN] at hn ⊢
  clear hN
  go_enter Ybaf.func9, Ybaf.ntmps9
  go_wp2
  go_loopw [5] (fun s wr => ∃ k d : Nat, s = .int .i64 k ∧ k ≤ N ∧ wr = w.drewN d) (fun s _ => N - (intOf s).toNat)
  case atStart => exact ⟨0, 0, rfl, Nat.zero_le _, rfl⟩
  case round =>
    obtain ⟨k, d, rfl, hk, rfl⟩ := hrel
    by_cases hlt : k < N
    · obtain ⟨b1, o1, n1, c1, hc1, hc1', hv1⟩ := HA.out k (by rw [HN.out]; exact hlt)
      obtain ⟨b2, o2, n2, c2, hc2, hc2', hv2⟩ := HB.out k (by rw [HN.out]; exact hlt)
      generalize cs.getD k (0, []) = p at *
      obtain ⟨t, xs⟩ := p
      have H8 : Hid (∀ x : Nat, Calls Ybaf.prog 8 #[.slice (some ⟨b1, o1, none⟩) n1 c1, .slice (some ⟨b2, o2, none⟩) n2 c2] (w.drewN (d + x)) fun e w' => e = .returned (.bool true) ∧ ∃ n, w' = w.drewN (d + n)) :=
        fun x => (equal_same _ _ _ _ _ _ xs (w.drewN (d + x)) (hv1.drewN _) (hv2.drewN _)).mono fun e w' h => ⟨h.1, x, h.2⟩
      clear hv1 hv2
      go_wp2
      go_quiet ((go_at_call 8; exact H8.out _))
      go_wp2
      go_roundw
      case rel => exact ⟨k + 1, _, by go_num, by omega, rfl⟩
      case measure => simp [intOf]; omega
    · have hje : k = N := by omega
      subst hje
      go_wp2
      go_ret
      exact ⟨rfl, _, rfl⟩
#print axioms csame_any
end Go.Proofs.YbulkdalyFmt
