/-
  'zzs5094cmodel' (7), walked.
-/
import Derived.Test.YbulkdalyFmtCvar
import Derived.Test.YbulkdalyFmtDec
namespace Go.Proofs.YbulkdalyFmt
open Go.RowKit
/-- What zzs5094cmodel answers. -/
def ModAns (w0 : World) (base : Nat) (w : World) (q : Option (List (Int × List Int))) (e : Ending) : Prop :=
  match q with
  | none => e = .returned (.tuple #[.slice none 0 0, .bool false])
  | some cs => ∃ v, e = .returned (.tuple #[v, .bool true]) ∧ Comps w0 base w v cs
/-- The state at a round's head. -/
def ModAt (xs : List Int) (n : Nat) (w : World) (v s : Value) (wr : World) : Prop :=
  ∃ (i : Nat) (cs : List (Int × List Int)), s = .int .i64 i ∧ i ≤ n ∧ Comps w w.heap.size wr v cs ∧ decF xs = (decF (xs.drop i)).map (cs ++ ·) ∧ cs.length ≤ i ∧ Below w.heap.size w wr
theorem ModAt.start {w : World} {n : Nat} {xs : List Int} :
    ModAt xs n w (.slice (some ⟨w.heap.size, 0, none⟩) 0 0) (.int .i64 0) (w.alloc (.cells #[] 43)) := by
  refine ⟨0, [], rfl, Nat.zero_le _, ⟨w.heap.size, 0, [], rfl, ?_, trivial⟩, by simp, by simp, (Below.refl _ _).alloc (Nat.le_refl _) _⟩
  exact World.ownsRow_lit w #[] 0 (Nat.le_refl _) (by simp) rfl
/-- What is left, by its length. -/
theorem drop_of {xs ys : List Int} {i n : Nat} {v : Int} {r : List Int} (hn : n = xs.length) (hy : xs.drop i = ys) (hv : varF ys = some (v, r)) : xs.drop (n - r.length) = r ∧ i < n - r.length ∧ r.length ≤ n := by
  have hl := varF_len hv
  have hs := varF_suffix hv
  have hyl : ys.length = n - i := by rw [← hy, List.length_drop, hn]
  refine ⟨?_, by omega, by omega⟩
  rw [← hy, List.drop_drop] at hs
  have e : i + ((xs.drop i).length - r.length) = n - r.length := by rw [hy]; omega
  rw [e] at hs
  exact hs.symm
set_option maxRecDepth 100000 in
set_option maxHeartbeats 1600000 in
theorem cmodel_any (a : Option Addr) (n c : Nat) (xs : List Int) (w : World) (hV : View w a n c xs) (hn : n ≤ 4000000) :
    Calls Ybaf.prog 7 #[.slice a n c] w fun e w' => ModAns w w.heap.size w' (decF xs) e ∧ Below w.heap.size w w' := by
  have HV := hid hV
  have hS := ModAt.start (w := w) (n := n) (xs := xs)
  have hc1 := hV.2.1
  have hc2 := hV.2.2.1
  clear hV
  obtain ⟨i0, hi, hz0, hz1, hz2⟩ := info_parts info43
  go_enter Ybaf.func7, Ybaf.ntmps7
  go_wp2
  go_loopw [4, 5] (fun v s wr => ModAt xs n w v s wr) (fun _ s _ => n - (intOf s).toNat)
  case atStart => exact hS
  case round =>
    obtain ⟨i, cs, rfl, hin, hC, hd, hl, hbel⟩ := hrel
    clear hS
    have HC := hid hC
    have HBL := hid hbel
    have HVr := hid (HV.out.later hbel)
    obtain ⟨g, cap, ps, rfl, ho, hr⟩ := hC
    have HO := hid ho
    have HRL := hid hr
    have HD := hid hd
    clear ho hr hbel hd
    by_cases hz : i = n
    · subst hz
      have HX : Hid (decF xs = some cs) := by
        unfold Hid
        rw [HD.out, List.drop_eq_nil_of_le (by rw [HV.out.1]; exact Nat.le_refl _), decF_nil]
        simp
      go_wp2
      go_ret2
      exact ⟨by rw [HX.out]; exact ⟨_, rfl, HC.out⟩, HBL.out⟩
    · have hlt : i < n := by omega
      obtain ⟨b, off, rfl, _⟩ := HV.out.2.2.2.2 (by omega)
      obtain ⟨ys, hys⟩ : ∃ ys, xs.drop i = ys := ⟨_, rfl⟩
      have hy : ys ≠ [] := by
        intro h
        have := congrArg List.length hys
        rw [h, List.length_drop, ← HV.out.1] at this
        simp at this; omega
      have hby : Byt ys := by rw [← hys]; exact HV.out.2.2.2.1.drop _
      have H1 := hid (cvar_any _ n c xs i wr HVr.out hin)
      rw [hys] at H1
      have hst := decF_step hy
      have HDx : Hid (decF xs = (decF ys).map (cs ++ ·)) := by rw [← hys]; exact HD.out
      clear HD
      cases h1 : varF ys with
      | none =>
        have HX : Hid (decF xs = none) := by
          unfold Hid; rw [HDx.out, hst]; unfold elF; rw [h1]; rfl
        rw [h1] at H1
        clear hst
        go_wp2_with (go_at_call 13; refine H1.out.mono ?_; rintro e w' ⟨rfl, rfl⟩)
        go_ret2
        exact ⟨by rw [HX.out]; rfl, HBL.out⟩
      | some p =>
        obtain ⟨t, r⟩ := p
        rw [h1] at H1
        have hdr := drop_of HV.out.1 hys h1
        have hrb := varF_byt hby h1
        obtain ⟨I2, hI2⟩ : ∃ I2, n - r.length = I2 := ⟨_, rfl⟩
        have H1' : Hid (Calls Ybaf.prog 13 #[.slice (some ⟨b, off, none⟩) n c, .int .i64 i] wr fun e w' => e = .returned (.tuple #[.int .u64 t, .int .i64 (I2 : Int), .bool true]) ∧ w' = wr) := by rw [← hI2]; exact H1.out
        clear H1
        rw [hI2] at hdr
        have H2 := hid (cvar_any _ n c xs I2 wr HVr.out (by omega))
        rw [hdr.1] at H2
        cases h2 : varF r with
        | none =>
          have HX : Hid (decF xs = none) := by
            unfold Hid; rw [HDx.out, hst]; unfold elF; rw [h1]; simp only [h2]; rfl
          rw [h2] at H2
          have HDR := hid hdr
          clear hst hdr hI2
          go_wp2_with (first
            | (go_at_call_of 13 (Value.int IntKind.i64 (i : Int)); refine H1'.out.mono ?_; rintro e w' ⟨rfl, hw'⟩; obtain rfl := hw'.symm)
            | (go_at_call 13; refine H2.out.mono ?_; rintro e w' ⟨rfl, rfl⟩))
          go_ret2
          exact ⟨by rw [HX.out]; rfl, HBL.out⟩
        | some p =>
          obtain ⟨l, q⟩ := p
          rw [h2] at H2
          have hdq := drop_of HV.out.1 hdr.1 h2
          have hqb := varF_byt hrb.1 h2
          obtain ⟨I3, hI3⟩ : ∃ I3, n - q.length = I3 := ⟨_, rfl⟩
          have H2' : Hid (Calls Ybaf.prog 13 #[.slice (some ⟨b, off, none⟩) n c, .int .i64 I2] wr fun e w' => e = .returned (.tuple #[.int .u64 l, .int .i64 (I3 : Int), .bool true]) ∧ w' = wr) := by rw [← hI3]; exact H2.out
          clear H2
          rw [hI3] at hdq
          have hq3 : (q.length : Int) = (n : Int) - (I3 : Int) := by omega
          have hi3 : I3 ≤ n := by omega
          have h12 : I2 < I3 := hdq.2.1
          have hi2 : i < I2 := hdr.2.1
          obtain ⟨L, rfl⟩ : ∃ L : Nat, l = L := ⟨l.toNat, by omega⟩
          by_cases hlq : (q.length : Int) < (L : Int)
          · have HX : Hid (decF xs = none) := by
              unfold Hid; rw [HDx.out, hst]; unfold elF; rw [h1]; simp only [h2, if_pos hlq]; rfl
            rw [hq3] at hlq
            have hqL := hqb.2
            clear hst hdr hI2 hI3 hdq hq3 hqb hrb
            go_wp2_with (first
              | (go_at_call_of 13 (Value.int IntKind.i64 (i : Int)); refine H1'.out.mono ?_; rintro e w' ⟨rfl, hw'⟩; obtain rfl := hw'.symm)
              | (go_at_call 13; refine H2'.out.mono ?_; rintro e w' ⟨rfl, hw'⟩; obtain rfl := hw'.symm))
            go_ret2
            exact ⟨by rw [HX.out]; rfl, HBL.out⟩
          · have HEl : Hid (decF xs = (if okF t (q.take L) then (match decF (q.drop L) with | none => none | some cs => some ((t, q.take L) :: cs)) else none).map (cs ++ ·)) := by
              unfold Hid; rw [HDx.out, hst]; unfold elF; rw [h1]; simp only [h2, if_neg hlq]; rfl
            have htl : (q.take L).length = L := by rw [List.length_take]; omega
            have hqL := hqb.2
            have ht := hrb.2
            obtain ⟨E, hE⟩ : ∃ E, I3 + L = E := ⟨_, rfl⟩
            have hEn : E ≤ n := by omega
            have HdE : Hid (xs.drop E = q.drop L) := by
              unfold Hid; rw [← hE, ← hdq.1, List.drop_drop]
            have hlq' : ¬ (n : Int) - (I3 : Int) < (L : Int) := by omega
            have hcl : cs.length ≤ 3999999 := by omega
            have hmE : n - E < n - i := by omega
            have hiE : cs.length + 1 ≤ E := by omega
            have hEI : E - I3 = L := by omega
            have hE3 : (I3 : Int) + (L : Int) = (E : Int) := by omega
            have hE4 : (I3 : Int) ≤ (E : Int) := by omega
            have hE5 : (E : Int) ≤ (c : Int) := by omega
            have hI3c : (I3 : Int) ≤ (n : Int) := by omega
            have HSV : Hid (∀ o3, (o3 = if c = I3 then off else off + I3) → View w (some ⟨b, o3, none⟩) L (c - I3) (q.take L)) := by
              intro o3 ho3
              have := HV.out.part I3 L (some ⟨b, o3, none⟩) (c - I3) (by omega) (fun h => by rw [ho3, if_neg (by omega)]) ⟨by omega, by omega⟩
              rw [hdq.1] at this
              exact this
            have HI3 := hid hI3
            clear hst hdr hI2 hI3 hdq hq3 hqb hrb hlq hE
            by_cases t0 : t = 0
            · subst t0
              have HX : Hid (decF xs = none) := by
                unfold Hid; rw [HEl.out]; simp only [okF_zero]; rfl
              go_wp2_with (first
                | (go_at_call_of 13 (Value.int IntKind.i64 (i : Int)); refine H1'.out.mono ?_; rintro e w' ⟨rfl, hw'⟩; obtain rfl := hw'.symm)
                | (go_at_call 13; refine H2'.out.mono ?_; rintro e w' ⟨rfl, hw'⟩; obtain rfl := hw'.symm))
              go_ret2
              exact ⟨by rw [HX.out]; rfl, HBL.out⟩
            by_cases t1 : 65535 < t
            · have HX : Hid (decF xs = none) := by
                unfold Hid; rw [HEl.out]; simp only [okF_big _ t1]; rfl
              go_wp2_with (first
                | (go_at_call_of 13 (Value.int IntKind.i64 (i : Int)); refine H1'.out.mono ?_; rintro e w' ⟨rfl, hw'⟩; obtain rfl := hw'.symm)
                | (go_at_call 13; refine H2'.out.mono ?_; rintro e w' ⟨rfl, hw'⟩; obtain rfl := hw'.symm))
              go_ret2
              exact ⟨by rw [HX.out]; rfl, HBL.out⟩
            by_cases t2 : t = 1
            · subst t2
              by_cases hL : L = 32
              · subst hL
                have hcI : ¬ c = I3 := by omega
                have hE3' : (I3 : Int) + 32 = (E : Int) := by omega
                clear hE3
                have HSV : Hid (View w (some ⟨b, off + I3, none⟩) 32 (c - I3) (q.take 32)) := HSV.out _ (by rw [if_neg hcI])
                have hok := okF_ok (t := 1) (q.take 32) t0 t1 (fun h => h.2 htl)
                have HX : Hid (decF xs = (decF (xs.drop E)).map ((cs ++ [(1, q.take 32)]) ++ ·)) := by
                  unfold Hid; rw [HEl.out, HdE.out]; simp only [hok]
                  cases decF (q.drop 32) <;> simp
                go_wp2_with (first
                  | (go_at_call_of 13 (Value.int IntKind.i64 (i : Int)); refine H1'.out.mono ?_; rintro e w' ⟨rfl, hw'⟩; obtain rfl := hw'.symm)
                  | (go_at_call 13; refine H2'.out.mono ?_; rintro e w' ⟨rfl, hw'⟩; obtain rfl := hw'.symm)
                  | (at_builtin; refine wpList_append_own _ rfl (.tmp 63) (.tmp 70) 24 rfl w.heap.size 43 i0 _ 2 32 Ybaf.underlying24 hi hz0 hz1 hz2 rfl (by decide) _ _ _ rfl (HO.out.alloc _) ⟨wr.heap.size, 0, none⟩ 1 1 [.int .u64 1, .slice (some ⟨b, off + I3, none⟩) 32 (c - I3)] rfl rfl ?c1a ?c2a ?c3a ?c4a ?c5a ?_))
                case c1a =>
                  intro j u hj
                  match j, hj with
                  | 0, hj => simp at hj; subst hj; simp [Addr.add]
                  | 1, hj => simp at hj; subst hj; simp [Addr.add]
                case c2a => intro u hu; simp at hu; rcases hu with rfl | rfl <;> rfl
                case c3a => unfold maxLen; omega
                case c4a => omega
                case c5a => have := HBL.out.size; simp; omega
                · intro v' w1 hown' hgrow hne
                  have hC' := Comps.grow (xs := q.take 32) HRL.out ⟨b, _, _, _, rfl, HSV.out⟩ hown' hne
                  have hb1 : Below w.heap.size w w1 := (HBL.out.alloc HBL.out.size _).grown hgrow (Nat.le_trans HBL.out.size (by simp)) (fun k hk => (HO.out.lt k hk).1)
                  have R := hid (show ModAt xs n w v' (.int .i64 E) w1 from ⟨E, _, rfl, hEn, hC', HX.out, by simpa using hiE, hb1⟩)
                  clear hown' hgrow hne hC' hb1
                  go_wp2
                  go_roundw
                  case rel => exact R.out
                  case measure => simpa [intOf] using hmE
              · have hL' : ¬ (L : Int) = 32 := by omega
                have HX : Hid (decF xs = none) := by
                  unfold Hid; rw [HEl.out]; simp only [okF_dig _ (Or.inl rfl) (by rw [htl]; exact hL)]; rfl
                go_wp2_with (first
                  | (go_at_call_of 13 (Value.int IntKind.i64 (i : Int)); refine H1'.out.mono ?_; rintro e w' ⟨rfl, hw'⟩; obtain rfl := hw'.symm)
                  | (go_at_call 13; refine H2'.out.mono ?_; rintro e w' ⟨rfl, hw'⟩; obtain rfl := hw'.symm))
                go_ret2
                exact ⟨by rw [HX.out]; rfl, HBL.out⟩
            by_cases t3 : t = 2
            · subst t3
              by_cases hL : L = 32
              · subst hL
                have hcI : ¬ c = I3 := by omega
                have hE3' : (I3 : Int) + 32 = (E : Int) := by omega
                clear hE3
                have HSV : Hid (View w (some ⟨b, off + I3, none⟩) 32 (c - I3) (q.take 32)) := HSV.out _ (by rw [if_neg hcI])
                have hok := okF_ok (t := 2) (q.take 32) t0 t1 (fun h => h.2 htl)
                have HX : Hid (decF xs = (decF (xs.drop E)).map ((cs ++ [(2, q.take 32)]) ++ ·)) := by
                  unfold Hid; rw [HEl.out, HdE.out]; simp only [hok]
                  cases decF (q.drop 32) <;> simp
                go_wp2_with (first
                  | (go_at_call_of 13 (Value.int IntKind.i64 (i : Int)); refine H1'.out.mono ?_; rintro e w' ⟨rfl, hw'⟩; obtain rfl := hw'.symm)
                  | (go_at_call 13; refine H2'.out.mono ?_; rintro e w' ⟨rfl, hw'⟩; obtain rfl := hw'.symm)
                  | (at_builtin; refine wpList_append_own _ rfl (.tmp 63) (.tmp 70) 24 rfl w.heap.size 43 i0 _ 2 32 Ybaf.underlying24 hi hz0 hz1 hz2 rfl (by decide) _ _ _ rfl (HO.out.alloc _) ⟨wr.heap.size, 0, none⟩ 1 1 [.int .u64 2, .slice (some ⟨b, off + I3, none⟩) 32 (c - I3)] rfl rfl ?c1b ?c2b ?c3b ?c4b ?c5b ?_))
                case c1b =>
                  intro j u hj
                  match j, hj with
                  | 0, hj => simp at hj; subst hj; simp [Addr.add]
                  | 1, hj => simp at hj; subst hj; simp [Addr.add]
                case c2b => intro u hu; simp at hu; rcases hu with rfl | rfl <;> rfl
                case c3b => unfold maxLen; omega
                case c4b => omega
                case c5b => have := HBL.out.size; simp; omega
                · intro v' w1 hown' hgrow hne
                  have hC' := Comps.grow (xs := q.take 32) HRL.out ⟨b, _, _, _, rfl, HSV.out⟩ hown' hne
                  have hb1 : Below w.heap.size w w1 := (HBL.out.alloc HBL.out.size _).grown hgrow (Nat.le_trans HBL.out.size (by simp)) (fun k hk => (HO.out.lt k hk).1)
                  have R := hid (show ModAt xs n w v' (.int .i64 E) w1 from ⟨E, _, rfl, hEn, hC', HX.out, by simpa using hiE, hb1⟩)
                  clear hown' hgrow hne hC' hb1
                  go_wp2
                  go_roundw
                  case rel => exact R.out
                  case measure => simpa [intOf] using hmE
              · have hL' : ¬ (L : Int) = 32 := by omega
                have HX : Hid (decF xs = none) := by
                  unfold Hid; rw [HEl.out]; simp only [okF_dig _ (Or.inr rfl) (by rw [htl]; exact hL)]; rfl
                go_wp2_with (first
                  | (go_at_call_of 13 (Value.int IntKind.i64 (i : Int)); refine H1'.out.mono ?_; rintro e w' ⟨rfl, hw'⟩; obtain rfl := hw'.symm)
                  | (go_at_call 13; refine H2'.out.mono ?_; rintro e w' ⟨rfl, hw'⟩; obtain rfl := hw'.symm))
                go_ret2
                exact ⟨by rw [HX.out]; rfl, HBL.out⟩
            have hok := okF_ok (t := t) (q.take L) t0 t1 (fun h => by rcases h.1 with h | h; exact t2 h; exact t3 h)
            have t0b : (t == 0) = false := by simp [t0]
            have t2b : (t == 1) = false := by simp [t2]
            have t3b : (t == 2) = false := by simp [t3]
            by_cases hcI : c = I3
            · subst hcI
              have hL0 : L = 0 := by omega
              subst hL0
              have hE3' : E = c := by omega
              subst hE3'
              clear hE3 hE4 hE5 hEI
              have HSV2 : Hid (View w (some ⟨b, off, none⟩) 0 0 (q.take 0)) := by
                have := HSV.out off (by rw [if_pos rfl])
                rw [Nat.sub_self] at this
                exact this
              clear HSV
              have HX : Hid (decF xs = (decF (xs.drop E)).map ((cs ++ [(t, q.take 0)]) ++ ·)) := by
                unfold Hid; rw [HEl.out, HdE.out]; simp only [hok]
                cases decF (q.drop 0) <;> simp
              go_wp2_with (first
                | (go_at_call_of 13 (Value.int IntKind.i64 (i : Int)); refine H1'.out.mono ?_; rintro e w' ⟨rfl, hw'⟩; obtain rfl := hw'.symm)
                | (go_at_call 13; refine H2'.out.mono ?_; rintro e w' ⟨rfl, hw'⟩; obtain rfl := hw'.symm)
                | (at_builtin; refine wpList_append_own _ rfl (.tmp 63) (.tmp 70) 24 rfl w.heap.size 43 i0 _ 2 32 Ybaf.underlying24 hi hz0 hz1 hz2 rfl (by decide) _ _ _ rfl (HO.out.alloc _) ⟨wr.heap.size, 0, none⟩ 1 1 [.int .u64 t, .slice (some ⟨b, off, none⟩) 0 0] rfl rfl ?c1d ?c2d ?c3d ?c4d ?c5d ?_))
              case c1d =>
                intro j u hj
                match j, hj with
                | 0, hj => simp at hj; subst hj; simp [Addr.add]
                | 1, hj => simp at hj; subst hj; simp [Addr.add]
              case c2d => intro u hu; simp at hu; rcases hu with rfl | rfl <;> rfl
              case c3d => unfold maxLen; omega
              case c4d => omega
              case c5d => have := HBL.out.size; simp; omega
              · intro v' w1 hown' hgrow hne
                have hC' := Comps.grow (xs := q.take 0) HRL.out ⟨b, _, _, _, rfl, HSV2.out⟩ hown' hne
                have hb1 : Below w.heap.size w w1 := (HBL.out.alloc HBL.out.size _).grown hgrow (Nat.le_trans HBL.out.size (by simp)) (fun k hk => (HO.out.lt k hk).1)
                have R := hid (show ModAt xs n w v' (.int .i64 E) w1 from ⟨E, _, rfl, hEn, hC', HX.out, by simpa using hiE, hb1⟩)
                clear hown' hgrow hne hC' hb1
                go_wp2
                go_roundw
                case rel => exact R.out
                case measure => simpa [intOf] using hmE
            · have HSV : Hid (View w (some ⟨b, off + I3, none⟩) L (c - I3) (q.take L)) := HSV.out _ (by rw [if_neg hcI])
              have HX : Hid (decF xs = (decF (xs.drop E)).map ((cs ++ [(t, q.take L)]) ++ ·)) := by
                unfold Hid; rw [HEl.out, HdE.out]; simp only [hok]
                cases decF (q.drop L) <;> simp
              go_wp2_with (first
                | (go_at_call_of 13 (Value.int IntKind.i64 (i : Int)); refine H1'.out.mono ?_; rintro e w' ⟨rfl, hw'⟩; obtain rfl := hw'.symm)
                | (go_at_call 13; refine H2'.out.mono ?_; rintro e w' ⟨rfl, hw'⟩; obtain rfl := hw'.symm)
                | (at_builtin; refine wpList_append_own _ rfl (.tmp 63) (.tmp 70) 24 rfl w.heap.size 43 i0 _ 2 32 Ybaf.underlying24 hi hz0 hz1 hz2 rfl (by decide) _ _ _ rfl (HO.out.alloc _) ⟨wr.heap.size, 0, none⟩ 1 1 [.int .u64 t, .slice (some ⟨b, off + I3, none⟩) L (c - I3)] rfl rfl ?c1e ?c2e ?c3e ?c4e ?c5e ?_))
              case c1e =>
                intro j u hj
                match j, hj with
                | 0, hj => simp at hj; subst hj; simp [Addr.add]
                | 1, hj => simp at hj; subst hj; simp [Addr.add]
              case c2e => intro u hu; simp at hu; rcases hu with rfl | rfl <;> rfl
              case c3e => unfold maxLen; omega
              case c4e => omega
              case c5e => have := HBL.out.size; simp; omega
              · intro v' w1 hown' hgrow hne
                have hC' := Comps.grow (xs := q.take L) HRL.out ⟨b, _, _, _, rfl, HSV.out⟩ hown' hne
                have hb1 : Below w.heap.size w w1 := (HBL.out.alloc HBL.out.size _).grown hgrow (Nat.le_trans HBL.out.size (by simp)) (fun k hk => (HO.out.lt k hk).1)
                have R := hid (show ModAt xs n w v' (.int .i64 E) w1 from ⟨E, _, rfl, hEn, hC', HX.out, by simpa using hiE, hb1⟩)
                clear hown' hgrow hne hC' hb1
                go_wp2
                go_roundw
                case rel => exact R.out
                case measure => simpa [intOf] using hmE
#print axioms cmodel_any
end Go.Proofs.YbulkdalyFmt
