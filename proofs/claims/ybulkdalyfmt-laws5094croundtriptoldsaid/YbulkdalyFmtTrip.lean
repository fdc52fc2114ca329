/-
  'LawS5094CRoundTrip' (4), walked: it answers true.
-/
import Derived.Test.YbulkdalyFmtKeep
import Derived.Test.YbulkdalyFmtLawM
import Derived.Test.YbulkdalyFmtCopy
namespace Go.Proofs.YbulkdalyFmt
open Go.RowKit
open Go.Extern.Stop Go.Stop Go.Extern
/-- A component of the argument in memory. -/
def Elem (w : World) (b o : Nat) (z : Comp) : Prop :=
  w.cell? ⟨b, o, none⟩ = some (.int .u16 z.1) ∧ (∃ av lv cv, w.cell? ⟨b, o + 1, none⟩ = some (.slice av lv cv) ∧ View w av lv cv z.2.1) ∧ w.cell? ⟨b, o + 2, none⟩ = some (.int .u8 z.2.2) ∧ 0 ≤ z.1 ∧ z.1 ≤ 65535 ∧ 0 ≤ z.2.2 ∧ z.2.2 ≤ 255
theorem Elem.later {w w' : World} {b o : Nat} {z : Comp} (h : Elem w b o z) (hb : Below w.heap.size w w') : Elem w' b o z := by
  obtain ⟨h1, ⟨av, lv, cv, h2, h3⟩, h4, h5⟩ := h
  exact ⟨(hb.cell (World.block_lt_of_cell? w _ h1)).trans h1, ⟨av, lv, cv, (hb.cell (World.block_lt_of_cell? w _ h2)).trans h2, h3.later hb⟩, (hb.cell (World.block_lt_of_cell? w _ h4)).trans h4, h5⟩
/-- The argument in memory. -/
def Args (w : World) (a : Option Addr) (n : Nat) (zs : List Comp) : Prop :=
  n = zs.length ∧ (0 < n → ∃ b off, a = some ⟨b, off, none⟩ ∧ ∀ k, k < n → Elem w b (off + k * 3) (zs.getD k (0, [], 0)))
theorem made_block2 (wr : World) (o : Obj) (N : Nat) : ((wr.alloc o).alloc (.cells (madeCells #[.int .u8 0] N) 5)).heap[wr.heap.size + 1]? = some (.cells (List.replicate N (Value.int .u8 0)).toArray 5 (0, 0)) := by
  have := made_block (wr.alloc o) N
  rwa [show (wr.alloc o).heap.size = wr.heap.size + 1 by simp] at this
theorem made_size (wr : World) (o : Obj) : (wr.alloc o).heap.size = wr.heap.size + 1 := by simp
theorem info5s : (Ybaf.prog.info? 5).map (·.size) = some 1 := by kernel_rfl
theorem run_copy_ex {wr W1 W2 : World} {av : Option Addr} {lv cv : Nat} {xs : List Int} {g N : Nat} (hv : View wr av lv cv xs) (hb : Below wr.heap.size wr W2) (hg : W2.heap[g]? = some (.cells (List.replicate N (Value.int .u8 0)).toArray 5 (0, 0))) (hb1 : Below W1.heap.size W1 W2) (hle : W1.heap.size ≤ g) :
    ∃ (w1 : World) (m : Nat), (Builtin.copy_ #[22, 22] 3 #[.slice (some ⟨g, 0, none⟩) N N, .slice av lv cv]).run Ybaf.prog W2 = .ok (goInt m) w1 ∧ Hid (w1.heap[g]? = some (.cells (splice (List.replicate N (Value.int .u8 0)) 0 ((xs.take N).map (Value.int .u8))).toArray 5 (0, 0))) ∧ Below W1.heap.size W1 w1 := by
  have hl := copy_len hv N
  by_cases h0 : ((xs.take N).map (Value.int .u8)).length = 0
  · have e : (xs.take N).map (Value.int .u8) = [] := List.eq_nil_of_length_eq_zero h0
    refine ⟨W2, 0, run_copy_none W2 22 22 3 5 _ _ N N lv cv Ybaf.underlying22 info5s (by rw [← hl]; exact h0), ?_, hb1⟩
    rw [e]
    show _ = _
    simpa [splice] using hg
  · obtain ⟨_, ad, rfl, hsrc⟩ := copy_pos hv hb N none (by omega)
    refine ⟨_, _, run_copy_row Ybaf.prog W2 22 22 3 5 g 0 N N ad lv cv _ 5 _ Ybaf.underlying22 info5s hg hl hsrc (by rw [Nat.zero_add, hl]; simp; exact Nat.min_le_right _ _) (oneCells _), ?_, below_setRow hb1 hle _⟩
    show _ = _
    rw [setRow_heap W2 g _ _ 5 _ hg]
    simp [splice]
theorem copied_len {N lv : Nat} {xs : List Int} (h : ((xs.take N).map (Value.int .u8)).length = Nat.min lv N) : (copied N lv xs).length = N := by
  unfold copied
  rw [List.length_map] at h
  rw [List.length_append, List.length_replicate, h]
  have : Nat.min lv N ≤ N := Nat.min_le_right _ _
  omega
theorem copied_byt {N lv : Nat} {xs : List Int} (h : Byt xs) : Byt (copied N lv xs) := by
  intro y hy
  unfold copied at hy
  rw [List.mem_append] at hy
  rcases hy with hy | hy
  · exact h y (List.mem_of_mem_take hy)
  · have := List.eq_of_mem_replicate hy; omega
theorem frame_cell {wr w1 : World} {t f : Int} {s : Value} (h : Below (wr.alloc (.cells #[.int .u16 t, s, .int .u8 f] 38)).heap.size (wr.alloc (.cells #[.int .u16 t, s, .int .u8 f] 38)) w1) : w1.cell? ⟨wr.heap.size, 2, none⟩ = some (.int .u8 f) :=
  (h.cell (by simp)).trans (cell_of_row _ _ 2 _ 38 (0, 0) (heap_alloc_new wr _))
theorem made_enc {w wr w1 : World} {o : Obj} {vW vC : Value} {ws : List Int} {ps qs : List (Int × Value)} {ds : List (Int × List Int)} {t : Int} {N lv : Nat} {xs : List Int} (h : Enc w wr vW vC ws ps qs ds) (hb : Below (wr.alloc o).heap.size (wr.alloc o) w1)
    (hw : Hid (w1.heap[wr.heap.size + 1]? = some (.cells (splice (List.replicate N (Value.int .u8 0)) 0 ((xs.take N).map (Value.int .u8))).toArray 5 (0, 0)))) (hl : ((xs.take N).map (Value.int .u8)).length = Nat.min lv N) (hB : Byt (copied N lv xs)) (hN : (copied N lv xs).length = N) (hN' : N ≤ 9223372036854775807 := by omega) :
    Enc w w1 vW vC ws ps (qs ++ [(t, .slice (some ⟨wr.heap.size + 1, 0, none⟩) N N)]) (ds ++ [(t, copied N lv xs)]) := by
  have hw := hw.out
  rw [copy_splice hl] at hw
  have := h.made (t := t) (below_step ((Below.refl wr.heap.size wr).alloc (Nat.le_refl _) o) hb) (b := wr.heap.size + 1) (by omega) hw hB (by omega)
  rw [hN] at this
  exact this
theorem Enc.lastCells {w wr : World} {vW vC : Value} {ws : List Int} {ps qs : List (Int × Value)} {ds : List (Int × List Int)} {t : Int} {b N : Nat} {xs : List Int} (h : Enc w wr vW vC ws ps (qs ++ [(t, .slice (some ⟨b, 0, none⟩) N N)]) (ds ++ [(t, xs)])) (hl : qs.length = ds.length) :
    ∀ j u, (xs.map (Value.int .u8))[j]? = some u → wr.cell? ((⟨b, 0, none⟩ : Addr).add j) = some u := by
  obtain ⟨_, _, b', e, hh, _⟩ := h.rel.last hl
  simp at e
  obtain ⟨rfl, _⟩ := e
  exact RowV.cells hh
theorem two_lit (w : World) (t : Int) (s : Value) : ∀ j u, ([.int .u64 t, s] : List Value)[j]? = some u → (w.alloc (.cells #[.int .u64 t, s] 43)).cell? ((⟨w.heap.size, 0, none⟩ : Addr).add j) = some u := by
  intro j u hj
  have e : (⟨w.heap.size, 0, none⟩ : Addr).add j = ⟨w.heap.size, j, none⟩ := by simp [Addr.add]; exact fun h => h.symm
  rw [e, cell_of_row _ _ j _ 43 (0, 0) (heap_alloc_new w _)]
  simpa using hj
theorem two_one (t : Int) (a : Option Addr) (n c : Nat) : ∀ u ∈ ([.int .u64 t, .slice a n c] : List Value), u.oneCell' = true := by
  intro u hu
  simp at hu
  rcases hu with rfl | rfl <;> rfl
theorem round_end {w w6 : World} {v5 v6 : Value} {ws cp xs : List Int} {qs : List (Int × Value)} {ds : List (Int × List Int)} {zs : List Comp} {i N : Nat} {t T f : Int}
    (E : Enc w w6 v5 v6 (((ws ++ putF T f) ++ putF (N : Int) (f / 4)) ++ cp) qs qs (ds ++ [(T, cp)])) (hws : encF (zs.take i) = ws) (hds : (zs.take i).map wantF = ds) (hz : zs.getD i (0, [], 0) = (t, xs, f)) (hi : i < zs.length) (hT : typF t = T) (hp : padF T xs = cp) (hN : cp.length = N) :
    Enc w w6 v5 v6 (encF (zs.take (i + 1))) qs qs ((zs.take (i + 1)).map wantF) := by
  have e : zs.take (i + 1) = zs.take i ++ [(t, xs, f)] := by
    rw [List.take_succ_eq_append_getElem hi, ← hz, List.getD_eq_getElem?_getD, List.getElem?_eq_getElem hi]; rfl
  have e1 : encF (zs.take (i + 1)) = ((ws ++ putF T f) ++ putF (N : Int) (f / 4)) ++ cp := by
    rw [e, encF_snoc, hws, oneF]
    simp only [hT, hp, hN, List.append_assoc]
  have e2 : (zs.take (i + 1)).map wantF = ds ++ [(T, cp)] := by
    rw [e, List.map_append, hds]
    simp only [List.map_cons, List.map_nil, wantF, hT, hp]
  rw [e1, e2]
  exact E
set_option maxRecDepth 100000 in
set_option maxHeartbeats 800000 in
set_option linter.unusedVariables false in
theorem trip_law (F : Interp) (a : Option Addr) (n c : Nat) (zs : List Comp) (eT : TypeId) (eV : Value) (w : World) (hF : F.answers w.tape) (hg : w.cell? ⟨0, 0, none⟩ = some (.iface eT eV)) (hA : Args w a n zs) (hc : n ≤ c) (hc' : c ≤ 9223372036854775807) :
    Calls Ybaf.prog 4 #[.slice a n c] w fun e w' => e = .returned (.bool true) ∧ Below w.heap.size w w' := by
  have HF := hid hF
  have HG := hid hg
  have HA := hid hA
  clear hF hg hA
  by_cases hn : 256 < n
  · go_enter Ybaf.func4, Ybaf.ntmps4
    go_wp2
    go_ret
    exact ⟨rfl, Below.refl _ _⟩
  have hn' : n ≤ 256 := by omega
  clear hn
  have HS := hid (Enc.start w)
  go_enter Ybaf.func4, Ybaf.ntmps4
  go_wp2
  go_loop [3] (fun s => ∃ k : Nat, s = .int .i64 k ∧ k ≤ n ∧ Hid (∀ j, j < k → (zs.getD j (0, [], 0)).2.1.length ≤ 4096)) (fun s => n - (intOf s).toNat)
  case atStart => exact ⟨0, rfl, Nat.zero_le _, fun j hj => by omega⟩
  case round =>
    obtain ⟨k, rfl, hk, hsm⟩ := hrel
    by_cases hlt : k < n
    · obtain ⟨b, off, rfl, hel⟩ := HA.out.2 (by omega)
      obtain ⟨h1, ⟨av, lv, cv, h2, h3⟩, h4, h5⟩ := hel k hlt
      have hlv := h3.1
      have hlc := h3.2.1
      have hlc' := h3.2.2.1
      generalize hz : zs.getD k (0, [], 0) = z at *
      have HLV := hid hlv
      have HZ := hid hz
      clear h1 h3 h4 h5 hel hlv hz
      by_cases hbig : 4096 < lv
      · go_wp2
        go_ret
        exact ⟨rfl, Below.refl _ _⟩
      · go_wp2
        go_round
        case rel => exact ⟨k + 1, by go_num, by omega, fun j hj => by
          by_cases hjk : j < k
          · exact hsm.out j hjk
          · have : j = k := by omega
            subst this
            rw [HZ.out, ← HLV.out]
            omega⟩
        case measure => simp [intOf]; omega
    · have hje : k = n := by omega
      subst hje
      have HGD : Hid (∀ j, j < k → Good (zs.getD j (0, [], 0))) := by
        intro j hj
        obtain ⟨b, off, _, hel⟩ := HA.out.2 (by omega)
        obtain ⟨h1, ⟨av, lv, cv, h2, h3⟩, h4, h5, h6, h7, h8⟩ := hel j hj
        exact ⟨h5, h6, hsm.out j hj, h3.2.2.2.1, h7, h8⟩
      clear hsm hk hlt
      go_wp2
      go_loopw [4, 5, 6] (fun vW vC s wr => ∃ (i : Nat) (qs : List (Int × Value)), s = .int .i64 i ∧ i ≤ k ∧ Hid (Enc w wr vW vC (encF (zs.take i)) qs qs ((zs.take i).map wantF))) (fun _ _ s _ => k - (intOf s).toNat)
      case atStart => exact ⟨0, [], rfl, Nat.zero_le _, HS.out⟩
      case round =>
        obtain ⟨i, qs, rfl, hi, hE⟩ := hrel
        by_cases hlt : i < k
        · obtain ⟨b, off, rfl, hel⟩ := HA.out.2 (by omega)
          have hel := (hel i hlt).later hE.out.below
          have HGZ := hid (HGD.out i hlt)
          generalize hz : zs.getD i (0, [], 0) = z at *
          obtain ⟨t, xs, f⟩ := z
          obtain ⟨c0, ⟨av, lv, cv, c1, hv⟩, c2, ht0, ht1, hf0, hf1⟩ := hel
          simp only at c0 c1 c2 hv ht0 ht1 hf0 hf1
          have HV := hid hv
          have hlv : lv ≤ 4096 := by rw [hv.1]; exact HGZ.out.2.2.1
          have hcv := hv.2.1
          have hcv' := hv.2.2.1
          have HZ := hid hz
          clear hv hz
          obtain ⟨ws, hws⟩ : ∃ ws, encF (zs.take i) = ws := ⟨_, rfl⟩
          obtain ⟨ds, hds⟩ : ∃ ds, (zs.take i).map wantF = ds := ⟨_, rfl⟩
          rw [hws, hds] at hE
          have HWS := hid hws
          have HDS := hid hds
          have hwl : ws.length ≤ 1053184 := by
            rw [← hws]
            have := encF_len (zs.take i) (fun z hz => by
              obtain ⟨j, hj, rfl⟩ := List.getElem_of_mem hz
              have hj' : j < i := by rw [List.length_take] at hj; omega
              have := (HGD.out j (by omega)).2.2.1
              have e : zs.getD j (0, [], 0) = (zs.take i)[j] := by
                rw [List.getElem_take, List.getD_eq_getElem?_getD, List.getElem?_eq_getElem (by rw [← HA.out.1]; omega)]; rfl
              rwa [e] at this)
            rw [List.length_take] at this
            omega
          clear hws hds
          have HQL := hid hE.out.rel.rel.len
          have hql : qs.length ≤ 256 := by
            rw [HQL.out, ← HDS.out, List.length_map, List.length_take]
            omega
          have HIL : Hid (i < zs.length) := by have := HA.out.1; unfold Hid; omega
          obtain ⟨i0, hi43, hz0, hz1, hz2⟩ := info_parts info43
          by_cases t0 : t = 0
          · subst t0
            clear ht0 ht1
            have hmk := fun w => run_make_row' (P := Ybaf.prog) 22 5 (.int .u8 0) 1 Ybaf.underlying22 info5 rfl .i64 .i64 lv (by omega) (by omega) w
            have HCL := hid (copy_len HV.out lv)
            have HPL : Hid ((copied lv lv xs).length = lv) := copied_len HCL.out
            have HPB : Hid (Byt (copied lv lv xs)) := copied_byt HV.out.2.2.2.1
            have HPD : Hid (padF 8 xs = (copied lv lv xs)) := by unfold Hid padF; rw [if_neg (by omega), copied_all HV.out.1]
            have HTY : Hid (typF 0 = 8) := by unfold Hid typF; rfl
            obtain ⟨w1, mc, hcp, hw1, hb1⟩ := run_copy_ex (W1 := wr.alloc (.cells #[.int .u16 0, .slice av lv cv, .int .u8 f] 38)) HV.out (((Below.refl wr.heap.size wr).alloc (Nat.le_refl _) (.cells #[.int .u16 0, .slice av lv cv, .int .u8 f] 38)).alloc (by simp) (.cells (madeCells #[.int .u8 0] lv) 5)) (made_block2 wr _ lv) ((Below.refl _ _).alloc (Nat.le_refl _) _) (by simp)
            have hfr := frame_cell hb1
            have E1 := hid (made_enc hE.out hb1 hw1 HCL.out HPB.out HPL.out (t := 8))
            have HNB : Hid (some wr.heap.size ≠ u4.ownBlock) := fun e => absurd (hE.out.wire.lt _ e.symm).2 (Nat.lt_irrefl _)
            clear hw1 hb1
            go_wp2_with (first
              | (go_at_call_of 10 (Value.int IntKind.u8 f); refine Calls.mono (put_any w.heap.size _ _ _ 8 f w1 E1.out.wire E1.out.below.size (by omega) ⟨by omega, by omega⟩ ⟨by omega, by omega⟩) ?_; rintro e w3 ⟨v3, rfl, ho3⟩; have hfr3 := ho3.2.1.cell (a := ⟨wr.heap.size, 2, none⟩) hfr HNB.out; have E2 := hid (E1.out.onto ho3); clear ho3)
              | (go_at_call 10; refine Calls.mono (put_any w.heap.size _ _ _ (lv : Int) (f / 4) w3 E2.out.wire E2.out.below.size (by have := put_len 8 f; rw [List.length_append]; omega) ⟨by omega, by omega⟩ ⟨by omega, by omega⟩) ?_; rintro e w4 ⟨v4, rfl, ho4⟩; have E3 := hid (E2.out.onto ho4); clear ho4)
              | (at_builtin; refine wpList_append_sep _ rfl (.tmp 76) (.tmp 77) rfl w.heap.size _ _ _ rfl E3.out.wire ⟨wr.heap.size + 1, 0, none⟩ lv lv ((copied lv lv xs).map (Value.int .u8)) rfl (by rw [List.length_map, HPL.out, Nat.mul_one]) (E3.out.lastCells HQL.out) (oneCells _) (by have := put_len 8 f; have := put_len (lv : Int) (f / 4); rw [List.length_append, List.length_append]; omega) (by have := put_len 8 f; rw [List.length_append, List.length_append]; omega) E3.out.below.size ?_; intro v5 w5 ho5 hg5 hs5; have E4 := hid (E3.out.onto (news := (copied lv lv xs)) ⟨by rw [HPL.out]; exact ho5, hg5, hs5⟩); clear ho5 hg5 hs5)
              | (at_builtin; refine wpList_append_own _ rfl (.tmp 79) (.tmp 83) 24 rfl w.heap.size 43 i0 _ 2 32 Ybaf.underlying24 hi43 hz0 hz1 hz2 rfl (by decide) _ _ _ rfl (E4.out.want.alloc _) ⟨w5.heap.size, 0, none⟩ 1 1 [.int .u64 8, (.slice (some ⟨wr.heap.size + 1, 0, none⟩) lv lv)] rfl rfl (two_lit w5 _ _) (two_one _ _ _ _) (by unfold maxLen; omega) (by omega) (Nat.le_trans E4.out.below.size (by simp)) ?_; intro v6 w6 ho6 hg6 hne6; have E5 := hid (E4.out.grow rfl ho6 hg6 (fun e => absurd (hne6.1 e).2 (by decide))); clear ho6 hg6 hne6))
            have R := hid (round_end E5.out HWS.out HDS.out HZ.out HIL.out HTY.out HPD.out HPL.out)
            clear E1 E2 E3 E4 E5
            go_roundw
            case rel => exact ⟨i + 1, _, by go_num, by omega, R.out⟩
            case measure => simp [intOf]; omega
          by_cases t1 : t = 1
          · subst t1
            clear ht0 ht1
            have hmk : ∀ w : World, (Instr.makeSlice 22 (.int .i64 32) (.int .i64 32)).run Ybaf.prog w = .ok (.slice (some ⟨w.heap.size, 0, none⟩) 32 32) (w.alloc (.cells (madeCells #[.int .u8 0] 32) 5)) := fun w => run_make_row' (P := Ybaf.prog) 22 5 (.int .u8 0) 1 Ybaf.underlying22 info5 rfl .i64 .i64 32 (by omega) (by omega) w
            have HCL := hid (copy_len HV.out 32)
            have HPL : Hid ((copied 32 lv xs).length = 32) := copied_len HCL.out
            have HPB : Hid (Byt (copied 32 lv xs)) := copied_byt HV.out.2.2.2.1
            have HPD : Hid (padF 1 xs = (copied 32 lv xs)) := by unfold Hid padF; rw [if_pos (Or.inl rfl), copied_32 HV.out.1]
            have HTY : Hid (typF 1 = 1) := by unfold Hid typF; rfl
            obtain ⟨w1, mc, hcp, hw1, hb1⟩ := run_copy_ex (W1 := wr.alloc (.cells #[.int .u16 1, .slice av lv cv, .int .u8 f] 38)) HV.out (((Below.refl wr.heap.size wr).alloc (Nat.le_refl _) (.cells #[.int .u16 1, .slice av lv cv, .int .u8 f] 38)).alloc (by simp) (.cells (madeCells #[.int .u8 0] 32) 5)) (made_block2 wr _ 32) ((Below.refl _ _).alloc (Nat.le_refl _) _) (by simp)
            have hfr := frame_cell hb1
            have E1 := hid (made_enc hE.out hb1 hw1 HCL.out HPB.out HPL.out (t := 1))
            have HNB : Hid (some wr.heap.size ≠ u4.ownBlock) := fun e => absurd (hE.out.wire.lt _ e.symm).2 (Nat.lt_irrefl _)
            clear hw1 hb1
            go_wp2_with (first
              | (go_at_call_of 10 (Value.int IntKind.u8 f); refine Calls.mono (put_any w.heap.size _ _ _ 1 f w1 E1.out.wire E1.out.below.size (by omega) ⟨by omega, by omega⟩ ⟨by omega, by omega⟩) ?_; rintro e w3 ⟨v3, rfl, ho3⟩; have hfr3 := ho3.2.1.cell (a := ⟨wr.heap.size, 2, none⟩) hfr HNB.out; have E2 := hid (E1.out.onto ho3); clear ho3)
              | (go_at_call 10; refine Calls.mono (put_any w.heap.size _ _ _ (32 : Int) (f / 4) w3 E2.out.wire E2.out.below.size (by have := put_len 1 f; rw [List.length_append]; omega) ⟨by omega, by omega⟩ ⟨by omega, by omega⟩) ?_; rintro e w4 ⟨v4, rfl, ho4⟩; have E3 := hid (E2.out.onto ho4); clear ho4)
              | (at_builtin; refine wpList_append_sep _ rfl (.tmp 76) (.tmp 77) rfl w.heap.size _ _ _ rfl E3.out.wire ⟨wr.heap.size + 1, 0, none⟩ 32 32 ((copied 32 lv xs).map (Value.int .u8)) rfl (by rw [List.length_map, HPL.out, Nat.mul_one]) (E3.out.lastCells HQL.out) (oneCells _) (by have := put_len 1 f; have := put_len (32 : Int) (f / 4); rw [List.length_append, List.length_append]; omega) (by have := put_len 1 f; rw [List.length_append, List.length_append]; omega) E3.out.below.size ?_; intro v5 w5 ho5 hg5 hs5; have E4 := hid (E3.out.onto (news := (copied 32 lv xs)) ⟨by rw [HPL.out]; exact ho5, hg5, hs5⟩); clear ho5 hg5 hs5)
              | (at_builtin; refine wpList_append_own _ rfl (.tmp 79) (.tmp 83) 24 rfl w.heap.size 43 i0 _ 2 32 Ybaf.underlying24 hi43 hz0 hz1 hz2 rfl (by decide) _ _ _ rfl (E4.out.want.alloc _) ⟨w5.heap.size, 0, none⟩ 1 1 [.int .u64 1, (.slice (some ⟨wr.heap.size + 1, 0, none⟩) 32 32)] rfl rfl (two_lit w5 _ _) (two_one _ _ _ _) (by unfold maxLen; omega) (by omega) (Nat.le_trans E4.out.below.size (by simp)) ?_; intro v6 w6 ho6 hg6 hne6; have E5 := hid (E4.out.grow rfl ho6 hg6 (fun e => absurd (hne6.1 e).2 (by decide))); clear ho6 hg6 hne6))
            have R := hid (round_end E5.out HWS.out HDS.out HZ.out HIL.out HTY.out HPD.out HPL.out)
            clear E1 E2 E3 E4 E5
            go_roundw
            case rel => exact ⟨i + 1, _, by go_num, by omega, R.out⟩
            case measure => simp [intOf]; omega
          by_cases t2 : t = 2
          · subst t2
            clear ht0 ht1
            have hmk : ∀ w : World, (Instr.makeSlice 22 (.int .i64 32) (.int .i64 32)).run Ybaf.prog w = .ok (.slice (some ⟨w.heap.size, 0, none⟩) 32 32) (w.alloc (.cells (madeCells #[.int .u8 0] 32) 5)) := fun w => run_make_row' (P := Ybaf.prog) 22 5 (.int .u8 0) 1 Ybaf.underlying22 info5 rfl .i64 .i64 32 (by omega) (by omega) w
            have HCL := hid (copy_len HV.out 32)
            have HPL : Hid ((copied 32 lv xs).length = 32) := copied_len HCL.out
            have HPB : Hid (Byt (copied 32 lv xs)) := copied_byt HV.out.2.2.2.1
            have HPD : Hid (padF 2 xs = (copied 32 lv xs)) := by unfold Hid padF; rw [if_pos (Or.inr rfl), copied_32 HV.out.1]
            have HTY : Hid (typF 2 = 2) := by unfold Hid typF; rfl
            obtain ⟨w1, mc, hcp, hw1, hb1⟩ := run_copy_ex (W1 := wr.alloc (.cells #[.int .u16 2, .slice av lv cv, .int .u8 f] 38)) HV.out (((Below.refl wr.heap.size wr).alloc (Nat.le_refl _) (.cells #[.int .u16 2, .slice av lv cv, .int .u8 f] 38)).alloc (by simp) (.cells (madeCells #[.int .u8 0] 32) 5)) (made_block2 wr _ 32) ((Below.refl _ _).alloc (Nat.le_refl _) _) (by simp)
            have hfr := frame_cell hb1
            have E1 := hid (made_enc hE.out hb1 hw1 HCL.out HPB.out HPL.out (t := 2))
            have HNB : Hid (some wr.heap.size ≠ u4.ownBlock) := fun e => absurd (hE.out.wire.lt _ e.symm).2 (Nat.lt_irrefl _)
            clear hw1 hb1
            go_wp2_with (first
              | (go_at_call_of 10 (Value.int IntKind.u8 f); refine Calls.mono (put_any w.heap.size _ _ _ 2 f w1 E1.out.wire E1.out.below.size (by omega) ⟨by omega, by omega⟩ ⟨by omega, by omega⟩) ?_; rintro e w3 ⟨v3, rfl, ho3⟩; have hfr3 := ho3.2.1.cell (a := ⟨wr.heap.size, 2, none⟩) hfr HNB.out; have E2 := hid (E1.out.onto ho3); clear ho3)
              | (go_at_call 10; refine Calls.mono (put_any w.heap.size _ _ _ (32 : Int) (f / 4) w3 E2.out.wire E2.out.below.size (by have := put_len 2 f; rw [List.length_append]; omega) ⟨by omega, by omega⟩ ⟨by omega, by omega⟩) ?_; rintro e w4 ⟨v4, rfl, ho4⟩; have E3 := hid (E2.out.onto ho4); clear ho4)
              | (at_builtin; refine wpList_append_sep _ rfl (.tmp 76) (.tmp 77) rfl w.heap.size _ _ _ rfl E3.out.wire ⟨wr.heap.size + 1, 0, none⟩ 32 32 ((copied 32 lv xs).map (Value.int .u8)) rfl (by rw [List.length_map, HPL.out, Nat.mul_one]) (E3.out.lastCells HQL.out) (oneCells _) (by have := put_len 2 f; have := put_len (32 : Int) (f / 4); rw [List.length_append, List.length_append]; omega) (by have := put_len 2 f; rw [List.length_append, List.length_append]; omega) E3.out.below.size ?_; intro v5 w5 ho5 hg5 hs5; have E4 := hid (E3.out.onto (news := (copied 32 lv xs)) ⟨by rw [HPL.out]; exact ho5, hg5, hs5⟩); clear ho5 hg5 hs5)
              | (at_builtin; refine wpList_append_own _ rfl (.tmp 79) (.tmp 83) 24 rfl w.heap.size 43 i0 _ 2 32 Ybaf.underlying24 hi43 hz0 hz1 hz2 rfl (by decide) _ _ _ rfl (E4.out.want.alloc _) ⟨w5.heap.size, 0, none⟩ 1 1 [.int .u64 2, (.slice (some ⟨wr.heap.size + 1, 0, none⟩) 32 32)] rfl rfl (two_lit w5 _ _) (two_one _ _ _ _) (by unfold maxLen; omega) (by omega) (Nat.le_trans E4.out.below.size (by simp)) ?_; intro v6 w6 ho6 hg6 hne6; have E5 := hid (E4.out.grow rfl ho6 hg6 (fun e => absurd (hne6.1 e).2 (by decide))); clear ho6 hg6 hne6))
            have R := hid (round_end E5.out HWS.out HDS.out HZ.out HIL.out HTY.out HPD.out HPL.out)
            clear E1 E2 E3 E4 E5
            go_roundw
            case rel => exact ⟨i + 1, _, by go_num, by omega, R.out⟩
            case measure => simp [intOf]; omega
          have t0b : (t == 0) = false := by simp [t0]
          have t1b : (t == 1) = false := by simp [t1]
          have t2b : (t == 2) = false := by simp [t2]
          have hmk := fun w => run_make_row' (P := Ybaf.prog) 22 5 (.int .u8 0) 1 Ybaf.underlying22 info5 rfl .i64 .i64 lv (by omega) (by omega) w
          have HCL := hid (copy_len HV.out lv)
          have HPL : Hid ((copied lv lv xs).length = lv) := copied_len HCL.out
          have HPB : Hid (Byt (copied lv lv xs)) := copied_byt HV.out.2.2.2.1
          have HPD : Hid (padF t xs = (copied lv lv xs)) := by unfold Hid padF; rw [if_neg (by omega), copied_all HV.out.1]
          have HTY : Hid (typF t = t) := by unfold Hid typF; rw [if_neg t0]
          obtain ⟨w1, mc, hcp, hw1, hb1⟩ := run_copy_ex (W1 := wr.alloc (.cells #[.int .u16 t, .slice av lv cv, .int .u8 f] 38)) HV.out (((Below.refl wr.heap.size wr).alloc (Nat.le_refl _) (.cells #[.int .u16 t, .slice av lv cv, .int .u8 f] 38)).alloc (by simp) (.cells (madeCells #[.int .u8 0] lv) 5)) (made_block2 wr _ lv) ((Below.refl _ _).alloc (Nat.le_refl _) _) (by simp)
          have hfr := frame_cell hb1
          have E1 := hid (made_enc hE.out hb1 hw1 HCL.out HPB.out HPL.out (t := t))
          have HNB : Hid (some wr.heap.size ≠ u4.ownBlock) := fun e => absurd (hE.out.wire.lt _ e.symm).2 (Nat.lt_irrefl _)
          clear hw1 hb1
          go_wp2_with (first
            | (go_at_call_of 10 (Value.int IntKind.u8 f); refine Calls.mono (put_any w.heap.size _ _ _ t f w1 E1.out.wire E1.out.below.size (by omega) ⟨by omega, by omega⟩ ⟨by omega, by omega⟩) ?_; rintro e w3 ⟨v3, rfl, ho3⟩; have hfr3 := ho3.2.1.cell (a := ⟨wr.heap.size, 2, none⟩) hfr HNB.out; have E2 := hid (E1.out.onto ho3); clear ho3)
            | (go_at_call 10; refine Calls.mono (put_any w.heap.size _ _ _ (lv : Int) (f / 4) w3 E2.out.wire E2.out.below.size (by have := put_len t f; rw [List.length_append]; omega) ⟨by omega, by omega⟩ ⟨by omega, by omega⟩) ?_; rintro e w4 ⟨v4, rfl, ho4⟩; have E3 := hid (E2.out.onto ho4); clear ho4)
            | (at_builtin; refine wpList_append_sep _ rfl (.tmp 76) (.tmp 77) rfl w.heap.size _ _ _ rfl E3.out.wire ⟨wr.heap.size + 1, 0, none⟩ lv lv ((copied lv lv xs).map (Value.int .u8)) rfl (by rw [List.length_map, HPL.out, Nat.mul_one]) (E3.out.lastCells HQL.out) (oneCells _) (by have := put_len t f; have := put_len (lv : Int) (f / 4); rw [List.length_append, List.length_append]; omega) (by have := put_len t f; rw [List.length_append, List.length_append]; omega) E3.out.below.size ?_; intro v5 w5 ho5 hg5 hs5; have E4 := hid (E3.out.onto (news := (copied lv lv xs)) ⟨by rw [HPL.out]; exact ho5, hg5, hs5⟩); clear ho5 hg5 hs5)
            | (at_builtin; refine wpList_append_own _ rfl (.tmp 79) (.tmp 83) 24 rfl w.heap.size 43 i0 _ 2 32 Ybaf.underlying24 hi43 hz0 hz1 hz2 rfl (by decide) _ _ _ rfl (E4.out.want.alloc _) ⟨w5.heap.size, 0, none⟩ 1 1 [.int .u64 t, (.slice (some ⟨wr.heap.size + 1, 0, none⟩) lv lv)] rfl rfl (two_lit w5 _ _) (two_one _ _ _ _) (by unfold maxLen; omega) (by omega) (Nat.le_trans E4.out.below.size (by simp)) ?_; intro v6 w6 ho6 hg6 hne6; have E5 := hid (E4.out.grow rfl ho6 hg6 (fun e => absurd (hne6.1 e).2 (by decide))); clear ho6 hg6 hne6))
          have R := hid (round_end E5.out HWS.out HDS.out HZ.out HIL.out HTY.out HPD.out HPL.out)
          clear E1 E2 E3 E4 E5
          go_roundw
          case rel => exact ⟨i + 1, _, by go_num, by omega, R.out⟩
          case measure => simp [intOf]; omega
        · have hje : i = k := by omega
          subst hje
          have hzl := HA.out.1
          rw [List.take_of_length_le (by omega)] at hE
          have hgd : ∀ z ∈ zs, Good z := by
            intro z hz
            obtain ⟨j, hj, rfl⟩ := List.getElem_of_mem hz
            have := HGD.out j (by omega)
            rw [List.getD_eq_getElem?_getD, List.getElem?_eq_getElem hj] at this
            exact this
          have hlen := encF_len zs (fun z hz => (hgd z hz).2.2.1)
          obtain ⟨a1, c1, rfl, hv1⟩ := own_view hE.out.wire (encF_byt zs hgd)
          have HD := hid (decodeName_any F a1 _ c1 _ eT eV wr wr (by rw [hE.out.below.tape]; exact HF.out) ((hE.out.below.cell (p := ⟨0, 0, none⟩) (World.block_lt_of_cell? w _ HG.out)).trans HG.out) hv1 (Below.refl _ _) (by omega))
          rw [decF_enc zs hgd] at HD
          have hcl : (zs.map wantF).length ≤ 4000000 := by rw [List.length_map]; omega
          have HCM := hid hE.out.comps
          have HBL := hid hE.out.below
          have HCL := hid hcl
          clear hE hgd hv1 hcl
          go_wp2_with (first
            | (go_at_call 6; refine HD.out.mono ?_; rintro e w2 ⟨h2, hb2⟩; obtain ⟨v2, rfl, hc2⟩ := h2.yes; have HB2 := hid hb2; have HC2 := hid hc2; clear h2 hb2 hc2)
            | (go_at_call 9; refine Calls.mono (csame_any wr wr _ _ v2 _ (zs.map wantF) w2 HC2.out HB2.out (HCM.out.later HB2.out) HB2.out HCL.out) ?_; rintro e w5 ⟨rfl, d, rfl⟩))
          go_ret
          exact ⟨rfl, below_drewN (below_step HBL.out HB2.out) _⟩
#print axioms trip_law
end Go.Proofs.YbulkdalyFmt
