/-
  Grow at this element type; sample of one or two numbers.
-/
import Derived.Test.YbulkdajuMix
import Derived.Test.YbulkdajuPer
import Derived.Lib.AppendZerosOnto
namespace Go.Proofs.Ybulkdaju
open Go.RowKit Go.Sort
/-- Behind Grow: k zero numbers lie in a row from o on; of what was there nothing has turned. -/
structure G0 (k : Nat) (w w' : World) (B o G : Nat) (cur : Array Value) (ty : TypeId) : Prop where
  gr : Below w.heap.size w w'
  row : w'.heap[B]? = some (.cells (putInts cur o (List.replicate k 0)) ty (0, 0))
  fit : o + k ≤ cur.size
  kG : k ≤ G
  Gm : G ≤ 9223372036854775807
theorem zeroCells_get (k i : Nat) (h : i < k) : (Builtin.zeroCells (Value.int .u64 0).cells k)[i]? = some (.int .u64 0) := by
  have e : (Value.int .u64 0).cells = #[.int .u64 0] := rfl
  rw [e]
  simp [Builtin.zeroCells, h, Nat.mod_one]
theorem zeroCells_size (k : Nat) : (Builtin.zeroCells (Value.int .u64 0).cells k).size = k := by
  have e : (Value.int .u64 0).cells = #[.int .u64 0] := rfl
  rw [e]
  simp [Builtin.zeroCells]
set_option maxRecDepth 100000 in
set_option maxHeartbeats 1000000 in
theorem grow_nil (k : Nat) (w : World) (h1 : 1 ≤ k) (h2 : k ≤ 2) :
    Calls Yba.prog 33 #[.slice none 0 0, .int .i64 k] w fun e w' => ∃ G cur, e = .returned (.slice (some ⟨w.heap.size, 0, none⟩) 0 G) ∧ G0 k w w' w.heap.size 0 G cur 23 := by
  obtain ⟨i0, hi0, hz0, hz1, hz2⟩ : ∃ i0, Yba.prog.info? 23 = some i0 ∧ i0.zero = some (.int .u64 0) ∧ i0.size = 1 ∧ i0.bytes = 8 := by
    obtain ⟨i, hi, hzz⟩ := Option.map_eq_some_iff.1 (show (Yba.prog.info? 23).map (fun i => (i.zero, i.size, i.bytes)) = some (some (.int .u64 0), 1, 8) by kernel_rfl)
    simp only [Prod.mk.injEq] at hzz
    exact ⟨i, hi, hzz.1, hzz.2.1, hzz.2.2⟩
  have hrz : ∀ ty, (Builtin.append_ #[22, 3] ty #[.slice none 0 0, .int .i64 k]).run Yba.prog w =
      .ok (.slice (some ⟨w.heap.size, 0, none⟩) k (grownCap w k 0 23)) (w.drew.alloc (.cells (([] : List Value).toArray ++ Builtin.zeroCells (Value.int .u64 0).cells k ++ Builtin.zeroCells (Value.int .u64 0).cells (grownCap w k 0 23 - k)) 23)) := fun ty => by
    have h := Lib.run_append_grow_zeros w 22 3 ty 23 i0 (.int .u64 0) .i64 .i64 Yba.underlying22 Yba.underlying3 hi0 hz0 none 0 0 [] (run_firstCells_none w.drew i0.size 0 0 0) k (by omega) (by omega) (by omega) (by omega) (by rw [hz2]; omega) (growslice_fits (by omega) (by rw [hz2]; omega))
    rw [Nat.zero_add] at h
    exact h
  have hGn : k ≤ grownCap w k 0 23 := grownCap_ge w _ _ _
  have hG63 : grownCap w k 0 23 ≤ 9223372036854775807 := by
    have := grownCap_le_maxLen w k 0 23 (by unfold maxLen; omega)
    unfold maxLen at this
    omega
  generalize grownCap w k 0 23 = G at *
  have hfin : G0 k w (w.drew.alloc (.cells (([] : List Value).toArray ++ Builtin.zeroCells (Value.int .u64 0).cells k ++ Builtin.zeroCells (Value.int .u64 0).cells (G - k)) 23)) w.heap.size 0 G (([] : List Value).toArray ++ Builtin.zeroCells (Value.int .u64 0).cells k ++ Builtin.zeroCells (Value.int .u64 0).cells (G - k)) 23 := by
    refine ⟨(Below.refl _ _).drew.alloc (Nat.le_refl _) _, ?_, ?_, hGn, hG63⟩
    · rw [putInts_self]
      · exact heap_alloc_new w.drew _
      · simp [zeroCells_size]
      · intro i hi
        simp at hi
        rw [Nat.zero_add, Array.getElem?_append_left (by simp [zeroCells_size]; omega)]
        simp [zeroCells_get k i hi, hi]
    · simp [zeroCells_size]
  have HF : Hid _ := hfin
  clear hfin
  generalize w.drew.alloc _ = W at *
  generalize (([] : List Value).toArray ++ Builtin.zeroCells (Value.int .u64 0).cells k ++ Builtin.zeroCells (Value.int .u64 0).cells (G - k)) = cur at *
  go_enter Yba.func33, Yba.ntmps33
  go_wp2_with (at_builtin; refine Lib.wpList_append_run _ rfl _ _ _ _ rfl _ _ rfl rfl _ _ (hrz _) ?_)
  all_goals go_ret
  all_goals exact ⟨G, cur, rfl, HF.out⟩
set_option maxRecDepth 100000 in
set_option maxHeartbeats 1000000 in
theorem grow_room (a : Option Addr) (k : Nat) (w : World) (h2 : k ≤ 4) :
    Calls Yba.prog 33 #[.slice a 0 4, .int .i64 k] w fun e w' => e = .returned (.slice a 0 4) ∧ w = w' := by
  go_enter Yba.func33, Yba.ntmps33
  go_wp2
  go_ret
  exact ⟨rfl, rfl⟩

/-- What sample draws: one or two numbers. -/
def sampleF (h m : Int) (k : Nat) : List Int :=
  if k = 1 then (pickN (IntKind.u64.wrap (m - 1)) 0 ([0], h) 1).1
  else if 2 ≤ perF m then (pickN (IntKind.u64.wrap (m - 2)) 0 ([0, 0], h) 2).1
  else (pickN (IntKind.u64.wrap (m - 2)) 1 ((pickN (IntKind.u64.wrap (m - 2)) 0 ([0], h) 1).1 ++ [0], mixF (g1 h)) 1).1
/-- What a call of sample or rows leaves: k numbers ds in a row from o on; nothing else of old has turned. -/
structure Drew (ds : List Int) (w w' : World) (B o G : Nat) (cur : Array Value) (ty : TypeId) : Prop where
  gr : w.grownBy w' (some B)
  row : w'.heap[B]? = some (.cells (putInts cur o ds) ty (0, 0))
  fit : o + ds.length ≤ cur.size
  kG : ds.length ≤ G
  Gm : G ≤ 9223372036854775807
theorem grownOfBelow {w w' : World} (h : Below w.heap.size w w') (r : Option Nat) : w.grownBy w' r := ⟨h.os, h.tape, h.output, h.size, fun k hk _ => h.block k hk⟩

set_option maxRecDepth 100000 in
set_option maxHeartbeats 400000 in
theorem sample_one (a : Option Addr) (c : Nat) (h m : Int) (w : World) (Q : Nat → Nat → Array Value → TypeId → Prop) (hh : 0 ≤ h ∧ h ≤ 18446744073709551615)
    (HG : Calls Yba.prog 33 #[.slice a 0 c, .int .i64 1] w fun e w' => ∃ B o G cur ty, e = .returned (.slice (some ⟨B, o, none⟩) 0 G) ∧ G0 1 w w' B o G cur ty ∧ Q B o cur ty) :
    Calls Yba.prog 24 #[.slice a 0 c, .pointer none, .int .u64 h, .int .u64 m, .int .u64 1] w fun e w' => ∃ B o G cur ty, e = .returned (.slice (some ⟨B, o, none⟩) 1 G) ∧ Drew (sampleF h m 1) w w' B o G cur ty ∧ Q B o cur ty := by
  have HH := hid HG
  clear HG
  have hp := perF_bd m
  have HD := fun w => hid (drawsPer_any m w)
  obtain ⟨p, hpe⟩ : ∃ p, perF m = p := ⟨_, rfl⟩
  rw [hpe] at hp HD
  clear hpe
  go_enter Yba.func24, Yba.ntmps24
  go_wp2_with (go_at_call 33; refine HH.out.mono ?_; rintro e w1 ⟨B, o, G, cur, ty, rfl, hg0, hQ⟩; have hkG : (1 : Int) ≤ (G : Int) := by have := hg0.kG; omega)
  refine (HD _).out.mono ?_
  rintro e w1' ⟨rfl, rfl⟩
  have HP := hid (pick_any B o 1 G cur ty [0] 0 h (IntKind.u64.wrap (m - 1)) w1 hg0.row hg0.fit rfl (by omega) (by omega) hg0.Gm (by omega) hh)
  have hmin : (if 1 < p then 1 else p) = 1 := by split <;> omega
  go_wp2_with fail
  refine wp_loop_rounds 2 ?_
  rw [rounds_succ]
  go_wp2_with (go_at_call 37; refine HP.out.mono ?_; rintro e w2 ⟨rfl, hg2, hs2, hb2⟩)
  rw [rounds_succ]
  go_wp2
  go_ret
  refine ⟨B, o, G, cur, ty, rfl, ⟨grownBy.then (grownOfBelow hg0.gr _) hg2, by rw [hb2]; rfl, ?_, ?_, hg0.Gm⟩, hQ⟩
  · have := hg0.fit; show o + (sampleF h m 1).length ≤ _; rw [show (sampleF h m 1).length = 1 from pickN_len _ _ _ _]; exact this
  · rw [show (sampleF h m 1).length = 1 from pickN_len _ _ _ _]; omega

theorem len_one {l : List Int} (h : l.length = 1) : ∃ a, l = [a] := by
  match l, h with
  | [a], _ => exact ⟨a, rfl⟩
set_option maxRecDepth 100000 in
set_option maxHeartbeats 400000 in
theorem sample_two (a : Option Addr) (c : Nat) (h m : Int) (w : World) (Q : Nat → Nat → Array Value → TypeId → Prop) (hh : 0 ≤ h ∧ h ≤ 18446744073709551615)
    (HG : Calls Yba.prog 33 #[.slice a 0 c, .int .i64 2] w fun e w' => ∃ B o G cur ty, e = .returned (.slice (some ⟨B, o, none⟩) 0 G) ∧ G0 2 w w' B o G cur ty ∧ Q B o cur ty) :
    Calls Yba.prog 24 #[.slice a 0 c, .pointer none, .int .u64 h, .int .u64 m, .int .u64 2] w fun e w' => ∃ B o G cur ty, e = .returned (.slice (some ⟨B, o, none⟩) 2 G) ∧ Drew (sampleF h m 2) w w' B o G cur ty ∧ Q B o cur ty := by
  have HH := hid HG
  clear HG
  have hp := perF_bd m
  have HD := fun w => hid (drawsPer_any m w)
  by_cases h2 : 2 ≤ perF m
  · have HS : Hid (sampleF h m 2 = (pickN (IntKind.u64.wrap (m - 2)) 0 ([0, 0], h) 2).1) := by
      unfold Hid sampleF; rw [if_neg (by decide), if_pos h2]
    obtain ⟨p, hpe⟩ : ∃ p, perF m = p := ⟨_, rfl⟩
    rw [hpe] at hp HD h2
    clear hpe
    go_enter Yba.func24, Yba.ntmps24
    go_wp2_with (go_at_call 33; refine HH.out.mono ?_; rintro e w1 ⟨B, o, G, cur, ty, rfl, hg0, hQ⟩; have hkG : (2 : Int) ≤ (G : Int) := by have := hg0.kG; omega)
    refine (HD _).out.mono ?_
    rintro e w1' ⟨rfl, rfl⟩
    have HP := hid (pick_any B o 2 G cur ty [0, 0] 0 h (IntKind.u64.wrap (m - 2)) w1 hg0.row hg0.fit rfl (by omega) (by omega) hg0.Gm (by omega) hh)
    have hmin : (if 2 < p then 2 else p) = 2 := by split <;> omega
    go_wp2_with fail
    refine wp_loop_rounds 2 ?_
    rw [rounds_succ]
    go_wp2_with (go_at_call 37; refine HP.out.mono ?_; rintro e w2 ⟨rfl, hg2, hs2, hb2⟩)
    rw [rounds_succ]
    go_wp2
    go_ret
    have hl : (sampleF h m 2).length = 2 := by rw [HS.out]; exact pickN_len _ _ _ _
    exact ⟨B, o, G, cur, ty, rfl, ⟨grownBy.then (grownOfBelow hg0.gr _) hg2, by rw [hb2, HS.out], by rw [hl]; exact hg0.fit, by rw [hl]; omega, hg0.Gm⟩, hQ⟩
  · obtain ⟨x, hx⟩ := len_one (pickN_len (IntKind.u64.wrap (m - 2)) 0 ([0], h) 1)
    have HX := hid hx
    have HS : Hid (sampleF h m 2 = (pickN (IntKind.u64.wrap (m - 2)) 1 ([x, 0], mixF (g1 h)) 1).1) := by
      unfold Hid sampleF; rw [if_neg (by decide), if_neg h2, hx]; rfl
    have hp1 : perF m = 1 := by omega
    rw [hp1] at HD
    clear hx hp1 hp h2
    have e1 : IntKind.u64.wrap (h + 11400714819323198485) = g1 h := rfl
    have hmb : 0 ≤ mixF (g1 h) ∧ mixF (g1 h) ≤ 18446744073709551615 := by unfold mixF; exact bits_bd _ _ _
    have HM := fun w => hid (mix_any (g1 h) w)
    go_enter Yba.func24, Yba.ntmps24
    go_wp2_with (go_at_call 33; refine HH.out.mono ?_; rintro e w1 ⟨B, o, G, cur, ty, rfl, hg0, hQ⟩; have hkG : (2 : Int) ≤ (G : Int) := by have := hg0.kG; omega)
    refine (HD _).out.mono ?_
    rintro e w1' ⟨rfl, rfl⟩
    have hfit := hg0.fit
    have hr1 : w1.heap[B]? = some (.cells (putInts (putInts cur o [0, 0]) o [0]) ty (0, 0)) := by
      rw [putInts_self (cur := putInts cur o [0, 0])]
      · exact hg0.row
      · rw [putInts_size]; simp; omega
      · intro i hi
        simp at hi
        subst hi
        rw [putInts_get [0, 0] cur o (o + 0) hfit, if_pos (by simp)]
        simp
    have HP := hid (pick_any B o 1 G (putInts cur o [0, 0]) ty [0] 0 h (IntKind.u64.wrap (m - 2)) w1 hr1 (by rw [putInts_size]; simp; omega) rfl (by omega) (by omega) hg0.Gm (by omega) hh)
    go_wp2_with fail
    refine wp_loop_rounds 3 ?_
    rw [rounds_succ]
    go_wp2_with (go_at_call 37; refine HP.out.mono ?_; rintro e w2 ⟨rfl, hg2, hs2, hb2⟩)
    have hr2 : w2.heap[B]? = some (.cells (putInts cur o [x, 0]) ty (0, 0)) := by
      rw [hb2, HX.out]
      have e := putInts_set (cur := cur) (o := o) (ds := [0, 0]) hfit 0 (by simp) x
      rw [show putInts (putInts cur o [0, 0]) o [x] = (putInts cur o [0, 0]).setIfInBounds (o + 0) (.int .u64 x) from rfl, e]
      rfl
    have HP2 := hid (pick_any B o 2 G cur ty [x, 0] 1 (mixF (g1 h)) (IntKind.u64.wrap (m - 2)) w2 hr2 hfit rfl (by omega) (by omega) hg0.Gm (by omega) hmb)
    clear HP hr1 hr2 hb2
    rw [rounds_succ]
    go_wp2_with (first | (go_at_call 36; refine (HM _).out.mono ?_; rintro e w2' ⟨rfl, rfl⟩) | (go_at_call 37; refine HP2.out.mono ?_; rintro e w3 ⟨rfl, hg3, hs3, hb3⟩))
    rw [rounds_succ]
    go_wp2
    go_ret
    have hl : (sampleF h m 2).length = 2 := by rw [HS.out]; exact pickN_len _ _ _ _
    exact ⟨B, o, G, cur, ty, rfl, ⟨grownBy.then (grownBy.then (grownOfBelow hg0.gr _) hg2) hg3, by rw [hb3, HS.out], by rw [hl]; exact hfit, by rw [hl]; omega, hg0.Gm⟩, hQ⟩
#print axioms sample_two
end Go.Proofs.Ybulkdaju
