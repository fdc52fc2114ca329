/-
  'sum' (function 14), walked: it computes sumF and writes nothing that was there.
-/
import Derived.Test.YbulkdajuLeaf
import Derived.Deep.RegionWith
namespace Go.Proofs.Ybulkdaju
open Go.RowKit Go.Sort
/-- Bytes F lie from off on in block b: n of them. -/
def Bytes (w : World) (b off n : Nat) (F : Nat → Int) : Prop := (∀ i, i < n → w.cell? ⟨b, off + i, none⟩ = some (.int .u8 (F i))) ∧ ∀ i, i < n → 0 ≤ F i ∧ F i ≤ 255
theorem Bytes.later {w w' : World} {b off n : Nat} {F : Nat → Int} (h : Bytes w b off n F) (hb : Below w.heap.size w w') : Bytes w' b off n F :=
  ⟨fun i hi => (hb.cell (p := ⟨b, off + i, none⟩) (World.block_lt_of_cell? w ⟨b, off + i, none⟩ (h.1 i hi))).trans (h.1 i hi), h.2⟩
def le64 (F : Nat → Int) (k : Nat) : Int := le8 (F k) (F (k + 1)) (F (k + 2)) (F (k + 3)) (F (k + 4)) (F (k + 5)) (F (k + 6)) (F (k + 7))
def le32 (F : Nat → Int) (k : Nat) : Int := le4 (F k) (F (k + 1)) (F (k + 2)) (F (k + 3))
theorem uint64_at {w : World} {b off n : Nat} {F : Nat → Int} (h : Bytes w b off n F) (k o m c : Nat) (ho : o = off + k) (hk : k + 8 ≤ n) (hm : 8 ≤ m) :
    Calls Yba.prog 21 #[.agg #[], .slice (some ⟨b, o, none⟩) m c] w fun e w' => e = .returned (.int .u64 (le64 F k)) ∧ Below w.heap.size w w' := by
  subst ho
  exact uint64_any b (off + k) m c (fun i => F (k + i)) w hm (fun i hi => by rw [Nat.add_assoc]; exact h.1 (k + i) (by omega)) (fun i hi => h.2 (k + i) (by omega))
theorem uint32_at {w : World} {b off n : Nat} {F : Nat → Int} (h : Bytes w b off n F) (k o m c : Nat) (ho : o = off + k) (hk : k + 4 ≤ n) (hm : 4 ≤ m) :
    Calls Yba.prog 22 #[.agg #[], .slice (some ⟨b, o, none⟩) m c] w fun e w' => e = .returned (.int .u32 (le32 F k)) ∧ Below w.heap.size w w' := by
  subst ho
  exact uint32_any b (off + k) m c (fun i => F (k + i)) w hm (fun i hi => by rw [Nat.add_assoc]; exact h.1 (k + i) (by omega)) (fun i hi => h.2 (k + i) (by omega))
def foldF (x y : Int) : Int := bits .xor .u64 (hi64 x y) (lo64 x y)
/-- The state behind j rounds. -/
def stateF (key : Int) (F : Nat → Int) : Nat → Int
  | 0 => key
  | j + 1 => foldF (bits .xor .u64 (le64 F (16 * j)) (stateF key F j)) (bits .xor .u64 (bits .xor .u64 (le64 F (16 * j + 8)) key) 10723151780598845931)
theorem stateF_bd {key : Int} (F : Nat → Int) (h0 : 0 ≤ key) (h1 : key ≤ 18446744073709551615) : ∀ j, 0 ≤ stateF key F j ∧ stateF key F j ≤ 18446744073709551615
  | 0 => ⟨h0, h1⟩
  | j + 1 => by unfold stateF foldF; exact bits_bd _ _ _
def lenOf : Value → Nat | .slice _ n _ => n | _ => 0
def xyF (F : Nat → Int) (n : Nat) : Int × Int :=
  if 16 < n then (le64 F (n - 16), le64 F (n - 8)) else if 8 ≤ n then (le64 F 0, le64 F (n - 8)) else if 4 ≤ n then (le32 F 0, le32 F (n - 4))
  else if 0 < n then (bits .or .u64 (bits .or .u64 (F 0 * 65536) (F (n / 2) * 256)) (F (n - 1)), 0) else (0, 0)
def tailF (key st x y : Int) (n : Nat) : Int :=
  foldF (bits .xor .u64 (hi64 (bits .xor .u64 (bits .xor .u64 x st) 13787848793156543929) (bits .xor .u64 (bits .xor .u64 y key) (IntKind.u64.wrap (n * 11400714819323198485)))) 11400714819323198485)
    (bits .xor .u64 (lo64 (bits .xor .u64 (bits .xor .u64 x st) 13787848793156543929) (bits .xor .u64 (bits .xor .u64 y key) (IntKind.u64.wrap (n * 11400714819323198485)))) key)
/-- What 'sum' answers. -/
def sumF (key : Int) (F : Nat → Int) (n : Nat) : Int := tailF key (stateF key F ((n - 1) / 16)) (xyF F n).1 (xyF F n).2 n
theorem sumF_bd (key : Int) (F : Nat → Int) (n : Nat) : 0 ≤ sumF key F n ∧ sumF key F n ≤ 18446744073709551615 := by
  unfold sumF tailF foldF
  exact bits_bd _ _ _
theorem le32_wrap (F : Nat → Int) (k : Nat) : IntKind.u64.wrap (le32 F k) = le32 F k := by
  have h : 0 ≤ le32 F k ∧ le32 F k ≤ 4294967295 := by unfold le32 le4; exact bits_bd32 _ _ _
  rw [IntKind.wrap_u64]; omega
theorem mixed : Yba.prog.follows .mixedOrders = true := by kernel_rfl

set_option maxRecDepth 100000 in
set_option maxHeartbeats 400000 in
theorem sum_any (key : Int) (b off n cap : Nat) (F : Nat → Int) (w : World) (h0 : 0 ≤ key) (h1 : key ≤ 18446744073709551615) (hn : 0 < n) (hn' : n ≤ 4096) (hcap : n ≤ cap) (hcap' : cap ≤ maxLen) (hB : Bytes w b off n F) :
    Calls Yba.prog 14 #[.int .u64 key, .slice (some ⟨b, off, none⟩) n cap] w fun e w' => e = .returned (.int .u64 (sumF key F n)) ∧ Below w.heap.size w w' := by
  unfold maxLen at hcap'
  have HB : Hid (Bytes w b off n F) := hB
  clear hB
  go_enter Yba.func14, Yba.ntmps14
  go_wp2
  go_loopw [1, 7] (fun s t wr => ∃ (j o m c : Nat), s = .slice (some ⟨b, o, none⟩) m c ∧ t = .int .u64 (stateF key F j) ∧ Hid (o = off + 16 * j ∧ m + 16 * j = n ∧ c + 16 * j = cap ∧ 0 < m) ∧ m ≤ c ∧ c ≤ 9223372036854775807 ∧ m ≤ n ∧ Below w.heap.size w wr) (fun s _ _ => lenOf s)
  case atStart => exact ⟨0, off, n, cap, rfl, rfl, ⟨by omega, by omega, by omega, hn⟩, hcap, by omega, Nat.le_refl _, Below.refl _ _⟩
  case round =>
    obtain ⟨j, o, m, c, rfl, rfl, hJ, hmc, hc, hmn, hbel⟩ := hrel
    by_cases hlt : 16 < m
    · have hst := stateF_bd F h0 h1 j
      have hBr := HB.out.later hbel
      have CA : Hid (∀ d os, Calls Yba.prog 21 #[.agg #[], .slice (some ⟨b, o, none⟩) m c] (grow (redrawn wr d) os) fun e w'' => e = .returned (.int .u64 (le64 F (16 * j))) ∧ ∃ p : Regrown, w'' = grow (redrawn wr p.d) p.os) :=
        fun d os => Calls.regrown_of (uint64_at (hBr.later (below_regrown wr d os)) (16 * j) o m c hJ.1 (by have := hJ.2.1; omega) (by omega))
      have CB : Hid (∀ d os, Calls Yba.prog 21 #[.agg #[], .slice (some ⟨b, o + 8, none⟩) (m - 8) (c - 8)] (grow (redrawn wr d) os) fun e w'' => e = .returned (.int .u64 (le64 F (16 * j + 8))) ∧ ∃ p : Regrown, w'' = grow (redrawn wr p.d) p.os) :=
        fun d os => Calls.regrown_of (uint64_at (hBr.later (below_regrown wr d os)) (16 * j + 8) (o + 8) (m - 8) (c - 8) (by have := hJ.1; omega) (by have := hJ.2.1; omega) (by omega))
      have CC : Hid (∀ d os, Calls Yba.prog 20 #[.int .u64 (bits .xor .u64 (le64 F (16 * j)) (stateF key F j)), .int .u64 (bits .xor .u64 (bits .xor .u64 (le64 F (16 * j + 8)) key) 10723151780598845931)] (grow (redrawn wr d) os) fun e w'' => e = .returned (.int .u64 (stateF key F (j + 1))) ∧ ∃ p : Regrown, w'' = grow (redrawn wr p.d) p.os) :=
        fun d os => (fold_any _ _ (bits_bd _ _ _).1 (bits_bd _ _ _).2 (bits_bd _ _ _).1 (bits_bd _ _ _).2 _).mono fun e w' ⟨h1, h2⟩ => ⟨h1, ⟨d, os⟩, h2.symm⟩
      clear hBr
      obtain ⟨st', hst'⟩ : ∃ x, stateF key F (j + 1) = x := ⟨_, rfl⟩
      have HS : Hid (stateF key F (j + 1) = st') := hst'
      rw [hst'] at CC
      clear hst'
      generalize stateF key F j = st at *
      generalize le64 F (16 * j) = x1 at *
      generalize le64 F (16 * j + 8) = x2 at *
      have e8 : ¬ c = 8 := by omega
      have e16 : ¬ c = 16 := by omega
      have m8 : (8 : Int) ≤ (m : Int) := by omega
      go_wp2
      refine wp_region_quiet_below mixed (by kernel_rfl) ?_
      repeat (quiet_step (first | (go_at_call_of 21 (Value.slice (some ⟨b, o, none⟩) m c); exact CA.out _ _) | (go_at_call 21; exact CB.out _ _) | (go_at_call 20; exact CC.out _ _)))
      refine wpQuiet_nil ?_
      intro _ hw'
      obtain ⟨⟨dq, osq⟩, hw''⟩ := hw'
      subst hw''
      have m16 : (16 : Int) ≤ (m : Int) := by omega
      have hbel2 : Go.RowKit.Below w.heap.size w (grow (redrawn wr dq) osq) := hbel.trans ((below_regrown wr dq osq).mono hbel.size)
      clear hbel CA CB CC hst
      go_wp2
      go_roundw
      case rel => exact ⟨j + 1, o + 16, m - 16, c - 16, rfl, by rw [HS.out], by have := hJ.out; exact ⟨by omega, by omega, by omega, by omega⟩, by omega, by omega, by omega, hbel2⟩
      case measure => simp [lenOf]; omega
    · have HJ : Hid (stateF key F j = stateF key F ((n - 1) / 16)) := by
        have := hJ.out
        have e : j = (n - 1) / 16 := by omega
        unfold Hid; rw [← e]
      have hst := stateF_bd F h0 h1 j
      generalize stateF key F j = st at *
      have hBr := HB.out.later hbel
      by_cases h16 : 16 < n
      · obtain ⟨N16, hN16⟩ : ∃ N, N + 16 = n := ⟨n - 16, by omega⟩
        obtain ⟨N8, hN8⟩ : ∃ N, N + 8 = n := ⟨n - 8, by omega⟩
        have HXY : Hid (xyF F n = (le64 F N16, le64 F N8)) := by
          unfold Hid xyF; rw [if_pos h16, show n - 16 = N16 by omega, show n - 8 = N8 by omega]
        have CA : Hid (∀ d os, Calls Yba.prog 21 #[.agg #[], .slice (some ⟨b, off + N16, none⟩) (n - N16) (cap - N16)] (grow (redrawn wr d) os) fun e w'' => e = .returned (.int .u64 (le64 F N16)) ∧ ∃ p : Regrown, w'' = grow (redrawn wr p.d) p.os) :=
          fun d os => Calls.regrown_of (uint64_at (hBr.later (below_regrown wr d os)) N16 (off + N16) (n - N16) (cap - N16) rfl (by omega) (by omega))
        have CB : Hid (∀ d os, Calls Yba.prog 21 #[.agg #[], .slice (some ⟨b, off + N8, none⟩) (n - N8) (cap - N8)] (grow (redrawn wr d) os) fun e w'' => e = .returned (.int .u64 (le64 F N8)) ∧ ∃ p : Regrown, w'' = grow (redrawn wr p.d) p.os) :=
          fun d os => Calls.regrown_of (uint64_at (hBr.later (below_regrown wr d os)) N8 (off + N8) (n - N8) (cap - N8) rfl (by omega) (by omega))
        have w16 : IntKind.i64.wrap ((n : Int) - 16) = (N16 : Int) := by rw [IntKind.wrap_i64]; omega
        have w8 : IntKind.i64.wrap ((n : Int) - 8) = (N8 : Int) := by rw [IntKind.wrap_i64]; omega
        have l16 : (N16 : Int) ≤ (n : Int) := by omega
        have l8 : (N8 : Int) ≤ (n : Int) := by omega
        have e16 : ¬ cap = N16 := by omega
        have e8 : ¬ cap = N8 := by omega
        clear hN16 hN8 hBr
        generalize le64 F N16 = x1 at *
        generalize le64 F N8 = x2 at *
        go_wp2
        refine wp_region_quiet_below mixed (by kernel_rfl) ?_
        repeat (quiet_step (first | (go_at_call_of 21 N16; exact CA.out _ _) | (go_at_call 21; exact CB.out _ _)))
        refine wpQuiet_nil ?_
        intro _ hw'
        obtain ⟨⟨dq, osq⟩, hw''⟩ := hw'
        subst hw''
        have hbel2 : Go.RowKit.Below w.heap.size w (grow (redrawn wr dq) osq) := hbel.trans ((below_regrown wr dq osq).mono hbel.size)
        generalize grow (redrawn wr dq) osq = W at *
        have HF : Hid (tailF key st x1 x2 n = sumF key F n) := by
          unfold Hid sumF; rw [← HJ.out, HXY.out]
        clear hbel CA CB hst w16 w8 l16 l8 e16 e8 HJ HXY
        go_wp2_with (first | (go_at_call 11; refine (mul64_any _ _ (bits_bd _ _ _).1 (bits_bd _ _ _).2 (bits_bd _ _ _).1 (bits_bd _ _ _).2 _).mono ?_; rintro e w' ⟨rfl, rfl⟩) | (go_at_call 20; refine (fold_any _ _ (bits_bd _ _ _).1 (bits_bd _ _ _).2 (bits_bd _ _ _).1 (bits_bd _ _ _).2 _).mono ?_; rintro e w' ⟨rfl, rfl⟩))
        go_ret
        exact ⟨by rw [← HF.out]; rfl, hbel2⟩
      · obtain ⟨ej, eo, em, ec⟩ : j = 0 ∧ o = off ∧ m = n ∧ c = cap := by have := hJ.out; omega
        subst ej eo em ec
        clear hJ
        by_cases h8 : 8 ≤ m
        · obtain ⟨N8, hN8⟩ : ∃ N, N + 8 = m := ⟨m - 8, by omega⟩
          have HXY : Hid (xyF F m = (le64 F 0, le64 F N8)) := by
            unfold Hid xyF; rw [if_neg h16, if_pos h8, show m - 8 = N8 by omega]
          have CA : Hid (∀ d os, Calls Yba.prog 21 #[.agg #[], .slice (some ⟨b, o, none⟩) m c] (grow (redrawn wr d) os) fun e w'' => e = .returned (.int .u64 (le64 F 0)) ∧ ∃ p : Regrown, w'' = grow (redrawn wr p.d) p.os) :=
            fun d os => Calls.regrown_of (uint64_at (hBr.later (below_regrown wr d os)) 0 o m c rfl (by omega) (by omega))
          have CB : Hid (∀ d os, Calls Yba.prog 21 #[.agg #[], .slice (some ⟨b, o + N8, none⟩) (m - N8) (c - N8)] (grow (redrawn wr d) os) fun e w'' => e = .returned (.int .u64 (le64 F N8)) ∧ ∃ p : Regrown, w'' = grow (redrawn wr p.d) p.os) :=
            fun d os => Calls.regrown_of (uint64_at (hBr.later (below_regrown wr d os)) N8 (o + N8) (m - N8) (c - N8) rfl (by omega) (by omega))
          have w8 : IntKind.i64.wrap ((m : Int) - 8) = (N8 : Int) := by rw [IntKind.wrap_i64]; omega
          have l8 : (N8 : Int) ≤ (m : Int) := by omega
          have e8 : ¬ c = N8 := by omega
          clear hN8 hBr
          generalize le64 F 0 = x1 at *
          generalize le64 F N8 = x2 at *
          go_wp2
          refine wp_region_quiet_below mixed (by kernel_rfl) ?_
          repeat (quiet_step (first | (go_at_call_of 21 N8; exact CB.out _ _) | (go_at_call 21; exact CA.out _ _)))
          refine wpQuiet_nil ?_
          intro _ hw'
          obtain ⟨⟨dq, osq⟩, hw''⟩ := hw'
          subst hw''
          have hbel2 : Go.RowKit.Below w.heap.size w (grow (redrawn wr dq) osq) := hbel.trans ((below_regrown wr dq osq).mono hbel.size)
          generalize grow (redrawn wr dq) osq = W at *
          have HF : Hid (tailF key st x1 x2 m = sumF key F m) := by
            unfold Hid sumF; rw [← HJ.out, HXY.out]
          clear hbel CA CB hst w8 l8 e8 HJ HXY
          go_wp2_with (first | (go_at_call 11; refine (mul64_any _ _ (bits_bd _ _ _).1 (bits_bd _ _ _).2 (bits_bd _ _ _).1 (bits_bd _ _ _).2 _).mono ?_; rintro e w' ⟨rfl, rfl⟩) | (go_at_call 20; refine (fold_any _ _ (bits_bd _ _ _).1 (bits_bd _ _ _).2 (bits_bd _ _ _).1 (bits_bd _ _ _).2 _).mono ?_; rintro e w' ⟨rfl, rfl⟩))
          go_ret
          exact ⟨by rw [← HF.out]; rfl, hbel2⟩
        · by_cases h4 : 4 ≤ m
          · obtain ⟨N4, hN4⟩ : ∃ N, N + 4 = m := ⟨m - 4, by omega⟩
            have HXY : Hid (xyF F m = (le32 F 0, le32 F N4)) := by
              unfold Hid xyF; rw [if_neg h16, if_neg h8, if_pos h4, show m - 4 = N4 by omega]
            have CA : Hid (∀ d os, Calls Yba.prog 22 #[.agg #[], .slice (some ⟨b, o, none⟩) m c] (grow (redrawn wr d) os) fun e w'' => e = .returned (.int .u32 (le32 F 0)) ∧ ∃ p : Regrown, w'' = grow (redrawn wr p.d) p.os) :=
              fun d os => Calls.regrown_of (uint32_at (hBr.later (below_regrown wr d os)) 0 o m c rfl (by omega) (by omega))
            have CB : Hid (∀ d os, Calls Yba.prog 22 #[.agg #[], .slice (some ⟨b, o + N4, none⟩) (m - N4) (c - N4)] (grow (redrawn wr d) os) fun e w'' => e = .returned (.int .u32 (le32 F N4)) ∧ ∃ p : Regrown, w'' = grow (redrawn wr p.d) p.os) :=
              fun d os => Calls.regrown_of (uint32_at (hBr.later (below_regrown wr d os)) N4 (o + N4) (m - N4) (c - N4) rfl (by omega) (by omega))
            have w4 : IntKind.i64.wrap ((m : Int) - 4) = (N4 : Int) := by rw [IntKind.wrap_i64]; omega
            have l4 : (N4 : Int) ≤ (m : Int) := by omega
            have e4 : ¬ c = N4 := by omega
            have u1 : IntKind.u64.wrap (le32 F 0) = le32 F 0 := le32_wrap F 0
            have u2 : IntKind.u64.wrap (le32 F N4) = le32 F N4 := le32_wrap F N4
            clear hN4 hBr
            generalize le32 F 0 = x1 at *
            generalize le32 F N4 = x2 at *
            go_wp2
            refine wp_region_quiet_below mixed (by kernel_rfl) ?_
            repeat (quiet_step (first | (go_at_call_of 22 N4; exact CB.out _ _) | (go_at_call 22; exact CA.out _ _)))
            refine wpQuiet_nil ?_
            intro _ hw'
            obtain ⟨⟨dq, osq⟩, hw''⟩ := hw'
            subst hw''
            have hbel2 : Go.RowKit.Below w.heap.size w (grow (redrawn wr dq) osq) := hbel.trans ((below_regrown wr dq osq).mono hbel.size)
            generalize grow (redrawn wr dq) osq = W at *
            have HF : Hid (tailF key st x1 x2 m = sumF key F m) := by
              unfold Hid sumF; rw [← HJ.out, HXY.out]
            clear hbel CA CB hst w4 l4 e4 HJ HXY u1 u2
            go_wp2_with (first | (go_at_call 11; refine (mul64_any _ _ (bits_bd _ _ _).1 (bits_bd _ _ _).2 (bits_bd _ _ _).1 (bits_bd _ _ _).2 _).mono ?_; rintro e w' ⟨rfl, rfl⟩) | (go_at_call 20; refine (fold_any _ _ (bits_bd _ _ _).1 (bits_bd _ _ _).2 (bits_bd _ _ _).1 (bits_bd _ _ _).2 _).mono ?_; rintro e w' ⟨rfl, rfl⟩))
            go_ret
            exact ⟨by rw [← HF.out]; rfl, hbel2⟩
          · rcases (show m = 1 ∨ m = 2 ∨ m = 3 by omega) with e | e | e
            · subst e
              have HXY : Hid (xyF F 1 = (bits .or .u64 (bits .or .u64 (F 0 * 65536) (F 0 * 256)) (F 0), 0)) := by
                unfold Hid xyF; rfl
              have hc0 := hBr.1 0 (by omega)
              have hb0 := hBr.2 0 (by omega)
              generalize F 0 = v0 at *
              simp only [Nat.add_zero] at hc0
              clear hBr
              go_wp2
              go_quiet (fail)
              have HF : Hid (tailF key st (bits .or .u64 (bits .or .u64 (v0 * 65536) (v0 * 256)) v0) 0 1 = sumF key F 1) := by
                unfold Hid sumF; rw [← HJ.out, HXY.out]
              have hbel2 : Go.RowKit.Below w.heap.size w (wr.drewN nq) := below_drewN hbel nq
              generalize wr.drewN nq = W at *
              clear hbel hst HJ HXY hc0 hb0
              go_wp2_with (first | (go_at_call 11; refine (mul64_any _ _ (bits_bd _ _ _).1 (bits_bd _ _ _).2 (bits_bd _ _ _).1 (bits_bd _ _ _).2 _).mono ?_; rintro e w' ⟨rfl, rfl⟩) | (go_at_call 20; refine (fold_any _ _ (bits_bd _ _ _).1 (bits_bd _ _ _).2 (bits_bd _ _ _).1 (bits_bd _ _ _).2 _).mono ?_; rintro e w' ⟨rfl, rfl⟩))
              go_ret
              exact ⟨by rw [← HF.out]; rfl, hbel2⟩
            · subst e
              have HXY : Hid (xyF F 2 = (bits .or .u64 (bits .or .u64 (F 0 * 65536) (F 1 * 256)) (F 1), 0)) := by
                unfold Hid xyF; rfl
              have hc0 := hBr.1 0 (by omega)
              have hb0 := hBr.2 0 (by omega)
              have hc1 := hBr.1 1 (by omega)
              have hb1 := hBr.2 1 (by omega)
              generalize F 0 = v0 at *
              generalize F 1 = v1 at *
              simp only [Nat.add_zero] at hc0
              clear hBr
              go_wp2
              go_quiet (fail)
              have HF : Hid (tailF key st (bits .or .u64 (bits .or .u64 (v0 * 65536) (v1 * 256)) v1) 0 2 = sumF key F 2) := by
                unfold Hid sumF; rw [← HJ.out, HXY.out]
              have hbel2 : Go.RowKit.Below w.heap.size w (wr.drewN nq) := below_drewN hbel nq
              generalize wr.drewN nq = W at *
              clear hbel hst HJ HXY hc0 hb0 hc1 hb1
              go_wp2_with (first | (go_at_call 11; refine (mul64_any _ _ (bits_bd _ _ _).1 (bits_bd _ _ _).2 (bits_bd _ _ _).1 (bits_bd _ _ _).2 _).mono ?_; rintro e w' ⟨rfl, rfl⟩) | (go_at_call 20; refine (fold_any _ _ (bits_bd _ _ _).1 (bits_bd _ _ _).2 (bits_bd _ _ _).1 (bits_bd _ _ _).2 _).mono ?_; rintro e w' ⟨rfl, rfl⟩))
              go_ret
              exact ⟨by rw [← HF.out]; rfl, hbel2⟩
            · subst e
              have HXY : Hid (xyF F 3 = (bits .or .u64 (bits .or .u64 (F 0 * 65536) (F 1 * 256)) (F 2), 0)) := by
                unfold Hid xyF; rfl
              have hc0 := hBr.1 0 (by omega)
              have hb0 := hBr.2 0 (by omega)
              have hc1 := hBr.1 1 (by omega)
              have hb1 := hBr.2 1 (by omega)
              have hc2 := hBr.1 2 (by omega)
              have hb2 := hBr.2 2 (by omega)
              generalize F 0 = v0 at *
              generalize F 1 = v1 at *
              generalize F 2 = v2 at *
              simp only [Nat.add_zero] at hc0
              clear hBr
              go_wp2
              go_quiet (fail)
              have HF : Hid (tailF key st (bits .or .u64 (bits .or .u64 (v0 * 65536) (v1 * 256)) v2) 0 3 = sumF key F 3) := by
                unfold Hid sumF; rw [← HJ.out, HXY.out]
              have hbel2 : Go.RowKit.Below w.heap.size w (wr.drewN nq) := below_drewN hbel nq
              generalize wr.drewN nq = W at *
              clear hbel hst HJ HXY hc0 hb0 hc1 hb1 hc2 hb2
              go_wp2_with (first | (go_at_call 11; refine (mul64_any _ _ (bits_bd _ _ _).1 (bits_bd _ _ _).2 (bits_bd _ _ _).1 (bits_bd _ _ _).2 _).mono ?_; rintro e w' ⟨rfl, rfl⟩) | (go_at_call 20; refine (fold_any _ _ (bits_bd _ _ _).1 (bits_bd _ _ _).2 (bits_bd _ _ _).1 (bits_bd _ _ _).2 _).mono ?_; rintro e w' ⟨rfl, rfl⟩))
              go_ret
              exact ⟨by rw [← HF.out]; rfl, hbel2⟩

set_option maxRecDepth 100000 in
set_option maxHeartbeats 400000 in
theorem sum_zero (key : Int) (a : Option Addr) (cap : Nat) (F : Nat → Int) (w : World) :
    Calls Yba.prog 14 #[.int .u64 key, .slice a 0 cap] w fun e w' => e = .returned (.int .u64 (sumF key F 0)) ∧ Below w.heap.size w w' := by
  have HF : Hid (tailF key key 0 0 0 = sumF key F 0) := rfl
  go_enter Yba.func14, Yba.ntmps14
  go_wp2
  refine wp_loop_rounds 1 ?_
  rw [rounds_succ]
  go_wp2_with (first | (go_at_call 11; refine (mul64_any _ _ (bits_bd _ _ _).1 (bits_bd _ _ _).2 (bits_bd _ _ _).1 (bits_bd _ _ _).2 _).mono ?_; rintro e w' ⟨rfl, rfl⟩) | (go_at_call 20; refine (fold_any _ _ (bits_bd _ _ _).1 (bits_bd _ _ _).2 (bits_bd _ _ _).1 (bits_bd _ _ _).2 _).mono ?_; rintro e w' ⟨rfl, rfl⟩))
  go_ret
  exact ⟨by rw [← HF.out]; rfl, Below.refl _ _⟩

/-- What is known of a slice of bytes that came in. -/
def CameB (w : World) (a : Option Addr) (n cap : Nat) (F : Nat → Int) : Prop := n ≤ cap ∧ cap ≤ maxLen ∧ (0 < n → ∃ b off, a = some ⟨b, off, none⟩ ∧ Bytes w b off n F)
theorem CameB.later {w w' : World} {a : Option Addr} {n cap : Nat} {F : Nat → Int} (h : CameB w a n cap F) (hb : Below w.heap.size w w') : CameB w' a n cap F :=
  ⟨h.1, h.2.1, fun hn => by obtain ⟨b, off, e, hB⟩ := h.2.2 hn; exact ⟨b, off, e, hB.later hb⟩⟩
/-- 'sum', whatever came in. -/
theorem sum_all (key : Int) (a : Option Addr) (n cap : Nat) (F : Nat → Int) (w : World) (h0 : 0 ≤ key) (h1 : key ≤ 18446744073709551615) (hn' : n ≤ 4096) (hB : CameB w a n cap F) :
    Calls Yba.prog 14 #[.int .u64 key, .slice a n cap] w fun e w' => e = .returned (.int .u64 (sumF key F n)) ∧ Below w.heap.size w w' := by
  by_cases hn : 0 < n
  · obtain ⟨b, off, rfl, hb⟩ := hB.2.2 hn
    exact sum_any key b off n cap F w h0 h1 hn hn' hB.1 hB.2.1 hb
  · obtain rfl : n = 0 := by omega
    exact sum_zero key a cap F w
#print axioms sum_all
end Go.Proofs.Ybulkdaju
