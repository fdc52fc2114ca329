/-
  'decodeName' (6), walked.
-/
import Derived.Test.YbulkdalyFmtRow
namespace Go.Proofs.YbulkdalyFmt
open Go.RowKit
open Go.Extern.Stop Go.Stop Go.Extern
def lenOf : Value → Nat | .slice _ n _ => n | _ => 0
/-- The state at a round's head. -/
def DecAt (w0 : World) (xs : List Int) (w : World) (s v : Value) (wr : World) : Prop :=
  ∃ a n c ys cs, s = .slice a n c ∧ View w0 a n c ys ∧ Comps w0 w.heap.size wr v cs ∧ decF xs = (decF ys).map (cs ++ ·) ∧ cs.length + ys.length ≤ xs.length ∧ Below w.heap.size w wr
theorem DecAt.start {w0 w : World} {a : Option Addr} {n c : Nat} {xs : List Int} (hV : View w0 a n c xs) :
    DecAt w0 xs w (.slice a n c) (.slice (some ⟨w.heap.size, 0, none⟩) 0 0) (w.alloc (.cells #[] 43)) := by
  refine ⟨a, n, c, xs, [], rfl, hV, ⟨w.heap.size, 0, [], rfl, ?_, trivial⟩, by simp, by simp, (Below.refl _ _).alloc (Nat.le_refl _) _⟩
  exact World.ownsRow_lit w #[] 0 (Nat.le_refl _) (by simp) rfl
theorem below_step {w wr w2 : World} (h : Below w.heap.size w wr) (h2 : Below wr.heap.size wr w2) : Below w.heap.size w w2 := h.trans (h2.mono h.size)
theorem two_cells {w2 w3 : World} {t : Int} {s : Value} {o : Obj} (hb : Below ((w2.alloc o).alloc (.cells #[.int .u64 t, s] 43)).heap.size ((w2.alloc o).alloc (.cells #[.int .u64 t, s] 43)) w3) :
    w3.cell? ⟨w2.heap.size + 1, 0, none⟩ = some (.int .u64 t) ∧ w3.cell? ⟨w2.heap.size + 1, 1, none⟩ = some s ∧ Below w2.heap.size w2 w3 := by
  have h0 : ((w2.alloc o).alloc (.cells #[.int .u64 t, s] 43)).heap[w2.heap.size + 1]? = some (.cells #[.int .u64 t, s] 43 (0, 0)) := by
    have := heap_alloc_new (w2.alloc o) (.cells #[.int .u64 t, s] 43)
    simpa using this
  have h1 := cell_of_row _ _ 0 _ 43 (0, 0) h0
  have h2 := cell_of_row _ _ 1 _ 43 (0, 0) h0
  refine ⟨(hb.cell (by simp)).trans h1, (hb.cell (by simp)).trans h2, ?_⟩
  exact below_step (((Below.refl _ _).alloc (Nat.le_refl _) _).alloc (by simp) _) hb
theorem CheckAns.no {e : Ending} (h : CheckAns false e) : ∃ t u, e = .returned (.iface t u) := h
theorem CheckAns.yes {e : Ending} (h : CheckAns true e) : e = .returned .nilIface := h
set_option maxRecDepth 100000 in
set_option maxHeartbeats 400000 in
theorem decodeName_any (F : Interp) (a : Option Addr) (n c : Nat) (xs : List Int) (eT : TypeId) (eV : Value) (w0 w : World) (hF : F.answers w.tape) (hg : w.cell? ⟨0, 0, none⟩ = some (.iface eT eV)) (hV : View w0 a n c xs) (hb : Below w0.heap.size w0 w) (hn : n ≤ 4000000) :
    Calls Ybaf.prog 6 #[.slice a n c] w fun e w' => DecAns w0 w.heap.size w' (decF xs) e ∧ Below w.heap.size w w' := by
  have hS := DecAt.start (w := w) hV
  have HN : Hid (xs.length ≤ 4000000) := by have := hV.1; unfold Hid; omega
  have HF := hid hF
  have HG := hid hg
  have HB := hid hb
  clear hb hF hg
  obtain ⟨i0, hi, hz0, hz1, hz2⟩ := info_parts info43
  go_enter Ybaf.func6, Ybaf.ntmps6
  go_wp2
  go_loopw [0, 4] (fun s v wr => DecAt w0 xs w s v wr) (fun s _ _ => lenOf s)
  case atStart => exact hS
  case round =>
    obtain ⟨a', n', c', ys, cs, rfl, hV', hC, hd, hl, hbel⟩ := hrel
    have HC := hid hC
    have HBL := hid hbel
    obtain ⟨g, cap, ps, rfl, ho, hr⟩ := hC
    by_cases hz : n' = 0
    · subst hz
      have hy : ys = [] := List.eq_nil_of_length_eq_zero hV'.1.symm
      subst hy
      have HD : Hid (decF xs = some cs) := by unfold Hid; rw [hd, decF_nil]; simp
      clear hd hl ho hbel hV'
      go_wp2
      go_ret2
      exact ⟨by rw [HD.out]; exact ⟨_, rfl, HC.out⟩, HBL.out⟩
    · have hy : ys ≠ [] := by intro h; rw [h] at hV'; exact hz hV'.1
      have hst := decF_step hy
      have hgr := (hbel.cell (p := ⟨0, 0, none⟩) (World.block_lt_of_cell? w _ HG.out)).trans HG.out
      have HE := hid (readElement_any F a' n' c' ys eT eV w0 wr (by rw [hbel.tape]; exact HF.out) hgr hV' (HB.out.trans (hbel.mono HB.out.size)))
      have HO := hid ho
      have HV' := hid hV'
      have HD := hid hd
      have HL := hid hl
      have HFr := hid (show F.answers wr.tape by rw [hbel.tape]; exact HF.out)
      clear ho hgr hd hl hbel
      have hc1 := hV'.2.1
      have hc2 := hV'.2.2.1
      clear hV'
      cases he : elF ys with
      | none =>
        rw [he] at HE hst
        have HX : Hid (decF xs = none) := by unfold Hid; rw [HD.out, hst]; rfl
        clear hst
        go_wp2_with (go_at_call 11; refine HE.out.mono ?_; rintro e w2 ⟨h, hb2⟩; obtain ⟨et, eu, rfl⟩ := h.no)
        go_ret2
        refine ⟨by rw [HX.out]; exact ⟨_, _, rfl⟩, ?_⟩
        exact (below_step HBL.out hb2).alloc (below_step HBL.out hb2).size _
      | some p => 
        obtain ⟨t, vs, r⟩ := p
        rw [he] at HE hst
        cases hok : okF t vs with
        | false =>
          have HX : Hid (decF xs = none) := by unfold Hid; rw [HD.out, hst]; simp only [hok]; rfl
          clear hst
          go_wp2_with (first
            | (go_at_call 11; refine HE.out.mono ?_; rintro e w2 ⟨h, hb2⟩; obtain ⟨b1, o1, n1, c1, b2, o2, n2, c2, rfl, hV1, hV2⟩ := h.yes; have HF2 := hid (show F.answers w2.tape by rw [hb2.tape]; exact HFr.out))
            | (go_at_call 12; refine Calls.mono (check_any F t _ n1 c1 vs _ HF2.out hV1.1 (by have := hV1.2.1; have := hV1.2.2.1; omega)) ?_; rintro e w3 ⟨h3, hb3⟩; rw [hok] at h3; obtain ⟨et, eu, rfl⟩ := h3.no))
          go_ret2
          refine ⟨by rw [HX.out]; exact ⟨_, _, rfl⟩, ?_⟩
          exact below_step (below_step HBL.out hb2) (two_cells hb3).2.2
        | true =>
          have HX : Hid (decF xs = (decF r).map ((cs ++ [(t, vs)]) ++ ·)) := by
            unfold Hid; rw [HD.out, hst]; simp only [hok]
            cases decF r <;> simp
          have hcl : cs.length ≤ 3999999 := by
            have h1 := HN.out; have h2 := HL.out; have h3 := HV'.out.1
            omega
          have HR := hid (elF_len he)
          clear hst
          go_wp2_with (first
            | (go_at_call 11; refine HE.out.mono ?_; rintro e w2 ⟨h, hb2⟩; obtain ⟨b1, o1, n1, c1, b2, o2, n2, c2, rfl, hV1, hV2⟩ := h.yes; have HF2 := hid (show F.answers w2.tape by rw [hb2.tape]; exact HFr.out))
            | (go_at_call 12; refine Calls.mono (check_any F t _ n1 c1 vs _ HF2.out hV1.1 (by have := hV1.2.1; have := hV1.2.2.1; omega)) ?_; rintro e w3 ⟨h3, hb3⟩; rw [hok] at h3; obtain rfl := h3.yes; obtain ⟨hc30, hc31, hb32⟩ := two_cells hb3; have HB3 := hid (below_step hb2 hb32); have HO3 := hid (HO.out.kept (grownOfBelow HB3.out none) (Or.inr (by simp [Value.ownBlock])));  have HS := hid hb3.size; clear hb3 hb32)
            | (at_builtin; refine wpList_append_own _ rfl (.tmp 33) (.tmp 35) 25 rfl w.heap.size 43 i0 _ 2 32 Ybaf.underlying25 hi hz0 hz1 hz2 rfl (by decide) _ _ _ rfl (HO3.out.alloc _) ⟨w3.heap.size, 0, none⟩ 1 1 [.int .u64 t, .slice (some ⟨b1, o1, none⟩) n1 c1] rfl rfl ?c1 ?c2 ?c3 ?c4 ?c5 ?_))
          case c1 =>
            intro j u hj
            match j, hj with
            | 0, hj => simp at hj; subst hj; simp [Addr.add]
            | 1, hj => simp at hj; subst hj; simp [Addr.add]
          case c2 => intro u hu; simp at hu; rcases hu with rfl | rfl <;> rfl
          case c3 => unfold maxLen; omega
          case c4 => omega
          case c5 => have := HBL.out.size; have := HB3.out.size; simp; omega
          · intro v' w1 hown' hgrow hne
            have hC' := Comps.grow (xs := vs) hr ⟨b1, o1, n1, c1, rfl, hV1⟩ hown' hne
            have hb1 : Below w.heap.size w w1 := ((below_step HBL.out HB3.out).alloc (below_step HBL.out HB3.out).size _).grown hgrow (Nat.le_trans (below_step HBL.out HB3.out).size (by simp)) (fun k hk => (HO.out.lt k hk).1)
            have hm : n2 < n' := by rw [hV2.1, HV'.out.1]; exact HR.out
            have hle : (cs ++ [(t, vs)]).length + r.length ≤ xs.length := by
              have h1 := HL.out; have h2 := HR.out
              simp; omega
            have R := hid (show DecAt w0 xs w (.slice (some ⟨b2, o2, none⟩) n2 c2) v' w1 from ⟨_, n2, c2, r, cs ++ [(t, vs)], rfl, hV2, hC', HX.out, hle, hb1⟩)
            clear hown' hgrow hne hC' hb1 hV1 hV2 h h3 hc30 hc31 hle hr
            go_wp2
            go_roundw
            case rel => exact R.out
            case measure => exact hm
#print axioms decodeName_any
end Go.Proofs.YbulkdalyFmt
