/-
  'Rows.LawS5094CRoundTripToldSaid': the told and tied card over ndn.LawS5094CRoundTrip. The walk: YbulkdalyFmtTrip.lean. The row's frame is after the kit's GuardTold.lean and PortSeven.lean.
-/
import Derived.Test.YbulkdalyFmtRows
import Derived.Test.YbulkdalyFmtTie
import Derived.Test.YbulkdalyFmtCards
import Derived.Test.YbulkdalyFmtTrip
import Derived.WalkKit
import Derived.ProofKit
import Derived.OpenShut
import Derived.ShutString
import Derived.ChangeOld
import Derived.Below
import Derived.WalkSmall
import Derived.Deep.Slices
import Derived.Deep.Strs
import Derived.Stop.JoinedAt
import Derived.Stop.Texts
import Derived.Stop.LaidErr
import Derived.Stop.JoinedTold
import Derived.SevenTiedAt
namespace Go.Proofs.YbulkdalyFmt.lawS5094CRoundTrip
open Go.ChangeShapes Go.WideShapes Go.ChangeAt Go.RowKit Go.Kit Go.Deep
open Go.Extern.Stop Go.Stop Go.Extern

theorem own : ownKnob Ybaf.prog.godebug = none := by kernel_rfl
theorem laidOut : laidOutB Ybaf.pinned.checked.prog = true := by kernel_rfl
theorem stops : Ybaf.pinned.checked.prog.stops = ["fmt.errorf"] := by kernel_rfl
theorem stopKnobs : Ybaf.pinned.checked.prog.stopKnobs = [] := by kernel_rfl
theorem quiet (os : Os) : Stop.quiet Ybaf.pinned.checked.prog os := by
  intro k hk
  rw [stopKnobs] at hk
  cases hk
theorem gT : Ybaf.prog.globalNamed "example.com/namewire/namewire/ndn.errTruncated" = some 0 := by kernel_rfl
theorem gTType : (Ybaf.prog.globals[0]?).map (·.type) = some 27 := by kernel_rfl
theorem cells62 : Ybaf.prog.cellsOf 62 = 1 := by kernel_rfl
theorem cells9 : Ybaf.prog.cellsOf 9 = 1 := by kernel_rfl
theorem star : "*" ++ "errors.errorString" = "*errors.errorString" := by decide
theorem row60 (u : TypeId) (h : Ybaf.prog.typeName? 3 u = some "*errors.errorString") : u = 60 :=
  typeName_ptr_named (nm := "errors.errorString") (by rw [star]; kernel_rfl) (by kernel_rfl) (by decide) u (by rw [star]; exact h)
/-- One start that fits: the variable as its initialiser lays it. -/
abbrev truncS : ByteArray := { data := #[116, 114, 117, 110, 99, 97, 116, 101, 100, 32, 84, 76, 86, 32, 116, 121, 112, 101, 32, 111, 114, 32, 108, 101, 110, 103, 116, 104] }
noncomputable def low : Nat := (World.holding Ybaf.prog default ⟨#[], #[], []⟩).heap.size
noncomputable def laidWorld (os : Os) (g : Nat) (s : ByteArray) : World :=
  let w0 := World.holding Ybaf.prog os ⟨#[.cells #[.string s] 62], #[], []⟩
  { w0 with heap := w0.heap.modify g fun
      | .cells _ t frozen => .cells #[.iface 60 (.pointer (some ⟨low, 0, none⟩))] t frozen
      | o => o }
theorem laid_met (os : Os) (args : Array Value) : laidMet Ybaf.prog Rows.lawS5094CRoundTripRow.laid ((laidWorld os 0 truncS).forCall (fun _ _ => 0) ⟨#[], args, []⟩).memory :=
  laidMet_of_run (ps := [.cell 0 0, .cell low 0]) 8 (by kernel_rfl) (by kernel_rfl) (by kernel_rfl)

theorem cells36 : Ybaf.prog.cellsOf 36 = 1 := by kernel_rfl
theorem cells22 : Ybaf.prog.cellsOf 22 = 1 := by kernel_rfl
theorem cells5 : Ybaf.prog.cellsOf 5 = 1 := by kernel_rfl
theorem cells38 : Ybaf.prog.cellsOf 38 = 3 := by kernel_rfl
theorem bounds_u8 {n : Int} (h : (Lit.int .u8 n).wf = true) : 0 ≤ n ∧ n ≤ 255 := by
  simp [Lit.wf, IntKind.min, IntKind.max, IntKind.signed, IntKind.bits] at h
  exact h
theorem bounds_u16 {n : Int} (h : (Lit.int .u16 n).wf = true) : 0 ≤ n ∧ n ≤ 65535 := by
  simp [Lit.wf, IntKind.min, IntKind.max, IntKind.signed, IntKind.bits] at h
  exact h
/-- A slice of bytes that came in, read: a view. -/
theorem view_of {H : Type} {enc : TypeId × Value → H} {w : World} {fuel : Nat} {cs : List Value} {x : DataW H × List MemPlace} (h : DataW.trod enc Ybaf.prog w 0 (fun _ => true) true fuel 22 cs = some x) : ∃ a n c xs, cs = [.slice a n c] ∧ View w a n c xs := by
  rcases open_ints Ybaf.underlying22 Ybaf.underlying5 cells5 h with ⟨rfl, _⟩ | ⟨x, l, c, zs, rfl, _, hl, hm, hz, _, hcell, hwz⟩
  · exact ⟨none, 0, 0, [], rfl, View.empty _ _ _ (by omega)⟩
  · refine ⟨_, l, c, zs.take l, rfl, ?_⟩
    have hz' : zs.length = c := by simpa using hz
    refine ⟨by rw [List.length_take]; omega, hl, by unfold maxLen at hm; omega, ?_, fun hn => ?_⟩
    · intro y hy
      exact bounds_u8 (hwz y (List.mem_of_mem_take hy))
    · obtain ⟨b, off, spot⟩ := x
      have hspot : spot = none := by simpa [Addr.add] using World.cell?_spot (hcell 0 (by omega))
      subst hspot
      refine ⟨b, off, rfl, fun i hi => ?_⟩
      have := hcell i (by omega)
      have e : (⟨b, off, none⟩ : Addr).add i = ⟨b, off + i, none⟩ := by simp [Addr.add]
      rw [e] at this
      rw [this]
      simp [List.getD_eq_getElem?_getD, hi]
theorem elem_of {H : Type} {enc : TypeId × Value → H} {w : World} {n : Nat} {a : Addr} {cs : List Value} {x : DataW H × List MemPlace} (hc : w.cells? 0 a 3 = some cs) (h : DataW.trod enc Ybaf.prog w 0 (fun _ => true) true n 38 cs = some x) :
    ∃ b o z, a = ⟨b, o, none⟩ ∧ Elem w b o z := by
  obtain ⟨y0, y1, y2, m, _, hl, h0, h1, h2⟩ := trod_struct3 Ybaf.underlying38 h
  rw [cells38] at hl
  have hc' := World.cells?_some hc
  match cs, hl with
  | [v0, v1, v2], _ =>
    simp [cells36, cells22, cells5] at h0 h1 h2
    obtain ⟨t, e0, _, wt⟩ := DataW.trod_int Ybaf.underlying36 h0
    obtain ⟨av, lv, cv, xs, e1, hv⟩ := view_of h1
    obtain ⟨f, e2, _, wf⟩ := DataW.trod_int Ybaf.underlying5 h2
    simp at e0 e1 e2
    subst e0 e1 e2
    have k0 := hc'.2.2 0 (by omega)
    have k1 := hc'.2.2 1 (by omega)
    have k2 := hc'.2.2 2 (by omega)
    obtain ⟨b, o, spot⟩ := a
    have hspot : spot = none := by simpa [Addr.add] using World.cell?_spot k0
    subst hspot
    simp [Addr.add] at k0 k1 k2
    have bt := bounds_u16 wt
    have bf := bounds_u8 wf
    exact ⟨b, o, (t, xs, f), rfl, k0, ⟨av, lv, cv, k1, hv⟩, k2, bt.1, bt.2, bf.1, bf.2⟩
/-- The argument, opened. -/
theorem args_of {H : Type} {enc : TypeId × Value → H} {w : World} {fuel : Nat} {a : Option Addr} {len cap : Nat} {x : DataW H × List MemPlace} (h : DataW.trod enc Ybaf.prog w 0 (fun _ => true) true fuel 35 [.slice a len cap] = some x) :
    ∃ zs, Args w a len zs ∧ len ≤ cap ∧ cap ≤ 9223372036854775807 := by
  rcases open_slice Ybaf.underlying35 h with ⟨e, _⟩ | ⟨p, l, c, m, n, D, Pl, e, _, hl, hm, hmm, _, hx⟩
  · simp at e
    obtain ⟨rfl, rfl, rfl⟩ := e
    exact ⟨[], ⟨rfl, fun h => absurd h (by omega)⟩, by omega, by omega⟩
  · simp at e
    obtain ⟨rfl, rfl, rfl⟩ := e
    simp at hmm
    subst hmm
    have hel : ∀ i, i < len → ∃ q : Nat × Nat × Comp, p.add (i * 3) = ⟨q.1, q.2.1, none⟩ ∧ Elem w q.1 q.2.1 q.2.2 := by
      intro i hi
      obtain ⟨cs', h1, h2⟩ := hx i (by omega)
      rw [cells38] at h1
      obtain ⟨b, o, z, e, he⟩ := elem_of h1 h2
      exact ⟨(b, o, z), e, he⟩
    obtain ⟨Q, hQ⟩ := choose_lt (α := Nat × Nat × Comp) (p := fun i q => p.add (i * 3) = ⟨q.1, q.2.1, none⟩ ∧ Elem w q.1 q.2.1 q.2.2) hel
    refine ⟨(List.range len).map fun i => (Q i).2.2, ⟨by simp, fun hn => ?_⟩, hl, by unfold maxLen at hm; omega⟩
    obtain ⟨b, off, spot⟩ := p
    have h0 := (hQ 0 hn).1
    have hspot : spot = none := by
      simp [Addr.add] at h0
      exact h0.2.2
    subst hspot
    refine ⟨b, off, rfl, fun k hk => ?_⟩
    have hk2 := hQ k hk
    have e : (⟨b, off, none⟩ : Addr).add (k * 3) = ⟨b, off + k * 3, none⟩ := by simp [Addr.add]
    rw [e] at hk2
    obtain ⟨e1, he⟩ := hk2
    simp at e1
    rw [← e1.1, ← e1.2] at he
    have e3 : ((List.range len).map fun i => (Q i).2.2).getD k (0, [], 0) = (Q k).2.2 := by
      simp [List.getD_eq_getElem?_getD, hk]
    rw [e3]
    exact he
set_option maxRecDepth 100000 in
theorem lifted (os : Os) (started : os.Started) (H : Type) (enc : TypeId × Value → H) :
    ReturnsInTold none {} Ybaf.checked os 4 .any Input.okWide ((OpenSpec.ofChange Rows.lawS5094CRoundTripSpec).preRow enc Ybaf.prog Ybaf.f4 [] false Rows.lawS5094CRoundTripRow.laid) (fun F => ((OpenSpec.ofChange Rows.lawS5094CRoundTripSpec).at F).post enc Ybaf.prog Ybaf.f4 false true false false) (aloneAtReturn Ybaf.prog) nothingAlways := by
  refine returnsInTold_of_row (C := Ybaf.checked) (s := OpenSpec.ofChange Rows.lawS5094CRoundTripSpec) (by kernel_rfl) own started (by kernel_rfl) Ybaf.func4
    (OpenSpec.witness_stopped_at (enc := enc) (C := Ybaf.checked) false (laidWorld os 0 truncS) #[.slice none 0 0] rfl (by kernel_rfl) (by kernel_rfl) (by kernel_rfl)
      (OpenSpec.preRow_of_B rfl 8 (by kernel_rfl) (by kernel_rfl) (laid_met os _))) ?_
  intro F W base args ds gs before _ hF hval0 hW _ _ _ hL _
  have hval : ∀ (j : Nat) t v, Ybaf.f4.params[j]? = some t → args[j]? = some v → Value.okWide Ybaf.prog W .any base t v := hval0
  have hW' := hW
  obtain ⟨p, q, hA0, hV0, rfl, hfz, hnd⟩ := hW
  have hA : DataW.TrodAll enc Ybaf.prog W 0 (fun _ => true) true Ybaf.f4.params.toList args.toList ds p := hA0
  have hV : DataW.TrodVars enc Ybaf.prog W (fun _ => true) ["example.com/namewire/namewire/ndn.errTruncated"] gs q := hV0
  rw [Ybaf.params4] at hA hval
  obtain ⟨v0, d0, rfl, rfl, h0⟩ := trodAll_one hA
  obtain ⟨a0, len0, cap0, rfl⟩ := okWide_slice Ybaf.underlying35 (hval 0 35 v0 rfl rfl)
  have k0 := h0
  have lt0 : ∀ x ∈ p, x.block < W.heap.size := by obtain ⟨m, hm⟩ := k0; exact DataW.trod_lt m _ _ _ hm
  obtain ⟨zs, hzs, hl0, hc0⟩ : ∃ zs, Args W a0 len0 zs ∧ len0 ≤ cap0 ∧ cap0 ≤ 9223372036854775807 := by
    obtain ⟨fuel, hf⟩ := h0
    exact args_of hf
  obtain ⟨a1, s1, hv1, hc1, hs1, hz1⟩ := laid_sentinel hL gT gTType Ybaf.underlying27 row60 Ybaf.underlying60 Ybaf.underlying62 rfl rfl Ybaf.underlying9 cells62 cells9
  obtain ⟨rfl, rfl⟩ := hV.unique (vars_read1 enc gT gTType Ybaf.underlying27 hv1 trivial _)
  clear hA0 hV0 hval0
  have hg1 : W.cell? ⟨0, 0, none⟩ = some (.iface 60 (.pointer (some a1))) := by simpa using World.var?_cell gT hv1 0
  refine (trip_law F.told a0 len0 cap0 zs 60 _ W hF hg1 hzs hl0 hc0).mono fun e W' ⟨he, bel⟩ => ?_
  subst he
  have hlt : 0 < W.heap.size := World.block_lt_of_cell? W _ hg1
  exact ⟨_, rfl, _, _, _, [], _, [.cell 0 0], hW', trodAll_mk1 (shut_bool Ybaf.underlying4 _), trodAll_mk1 (Below.trod laidOut (by kernel_rfl) (of_decide_eq_true (by kernel_rfl)) k0 bel lt0), vars_read1 enc gT gTType Ybaf.underlying27 (var?_below bel gT hlt hv1) trivial _, bel.frame _, fun h => by cases h⟩

/-- ████ THE STATEMENT ████ -/
theorem proved : Rows.LawS5094CRoundTripToldSaid :=
  Claim7.holds_of_told_tied_any_at .later 4 Ybaf.f4 "fmt.errorf" [] [] _ _ _ _ _ (by kernel_rfl) rfl rfl rfl laidOut (by kernel_rfl) rfl ⟨rfl, rfl, rfl, rfl, rfl, rfl, rfl⟩ rfl rfl (by kernel_rfl) (by kernel_rfl) Ybaf.func4 (by kernel_rfl)
    (of_decide_eq_true (by kernel_rfl)) (of_decide_eq_true (by kernel_rfl)) stops.symm rfl stopKnobs.symm (by kernel_rfl)
    (by kernel_rfl) (by kernel_rfl) (by kernel_rfl) (by kernel_rfl) (by kernel_rfl) (by kernel_rfl) (by kernel_rfl) (by kernel_rfl) (by kernel_rfl) rfl (by kernel_rfl) rfl rfl
    rfl rfl
    rfl (by kernel_rfl) (by kernel_rfl) (by kernel_rfl) (by decide) (by kernel_rfl) lawS5094CRoundTrip_row_tie
    (OpenClaim.moreEntering_of (by kernel_rfl) (by kernel_rfl) (by kernel_rfl) (by kernel_rfl) (by kernel_rfl) (by kernel_rfl) (by kernel_rfl) (by kernel_rfl) (by kernel_rfl) (by kernel_rfl))
    ⟨_, WideRow.started_initial, quiet _⟩
    (fun os started _ H enc _ => lifted os started H enc)
#print axioms proved
end Go.Proofs.YbulkdalyFmt.lawS5094CRoundTrip
