/-
  f.rows (function 16) at one or two indices, walked.
-/
import Derived.Test.YbulkdajuSample
namespace Go.Proofs.Ybulkdaju
open Go.RowKit Go.Sort
set_option maxHeartbeats 400000 in
theorem blockRows_any (s m1 m2 k1 k2 j : Int) (w : World) (hm : 0 ≤ m1 ∧ m1 ≤ 18446744073709551615) (hj : 1 ≤ j ∧ j ≤ 18446744073709551615) :
    Calls Yba.prog 25 #[.agg #[.int .i64 s, .int .u64 m1, .int .u64 m2, .int .u64 k1, .int .u64 k2, .int .u64 j]] w fun e w' => e = .returned (.int .u64 (m1 / j)) ∧ Below w.heap.size w w' := by
  go_enter Yba.func25, Yba.ntmps25
  go_wp2
  go_ret
  exact ⟨rfl, (Below.refl _ _).alloc (Nat.le_refl _) _⟩
theorem sample_k (a : Option Addr) (c k : Nat) (h m : Int) (w : World) (Q : Nat → Nat → Array Value → TypeId → Prop) (hk : k = 1 ∨ k = 2) (hh : 0 ≤ h ∧ h ≤ 18446744073709551615)
    (HG : Calls Yba.prog 33 #[.slice a 0 c, .int .i64 k] w fun e w' => ∃ B o G cur ty, e = .returned (.slice (some ⟨B, o, none⟩) 0 G) ∧ G0 k w w' B o G cur ty ∧ Q B o cur ty) :
    Calls Yba.prog 24 #[.slice a 0 c, .pointer none, .int .u64 h, .int .u64 m, .int .u64 k] w fun e w' => ∃ B o G cur ty, e = .returned (.slice (some ⟨B, o, none⟩) k G) ∧ Drew (sampleF h m k) w w' B o G cur ty ∧ Q B o cur ty := by
  rcases hk with rfl | rfl
  · exact sample_one a c h m w Q hh HG
  · exact sample_two a c h m w Q hh HG
theorem sampleF_len (h m : Int) (k : Nat) (hk : k = 1 ∨ k = 2) : (sampleF h m k).length = k := by
  rcases hk with rfl | rfl
  · exact pickN_len _ _ _ _
  · unfold sampleF
    rw [if_neg (by decide)]
    split
    · exact pickN_len _ _ _ _
    · rw [pickN_len]
      simp [pickN_len]
/-- The first t of a list, mapped. -/
def mapTo (f : Int → Int) (t : Nat) (ds : List Int) : List Int := (ds.take t).map f ++ ds.drop t
theorem mapTo_len (f : Int → Int) (t : Nat) (ds : List Int) : (mapTo f t ds).length = ds.length := by
  unfold mapTo; simp; omega
theorem mapTo_all (f : Int → Int) (ds : List Int) : mapTo f ds.length ds = ds.map f := by unfold mapTo; simp
theorem mapTo_get (f : Int → Int) (t : Nat) (ds : List Int) (h : t < ds.length) : (mapTo f t ds).getD t 0 = ds.getD t 0 := by
  unfold mapTo
  rw [List.getD_eq_getElem?_getD, List.getElem?_append_right (by simp; omega), List.getD_eq_getElem?_getD]
  simp [Nat.min_eq_left (Nat.le_of_lt h)]
theorem mapTo_set (f : Int → Int) (t : Nat) (ds : List Int) (h : t < ds.length) : (mapTo f t ds).set t (f (ds.getD t 0)) = mapTo f (t + 1) ds := by
  apply List.ext_getElem?
  intro i
  unfold mapTo
  rw [List.getElem?_set]
  by_cases e : t = i
  · subst e
    rw [if_pos rfl, if_pos (by simp; omega), List.getElem?_append_left (by simp; omega)]
    simp [h]
  · rw [if_neg e]
    by_cases hi : i < t
    · rw [List.getElem?_append_left (by simp; omega), List.getElem?_append_left (by simp; omega)]
      simp [hi, Nat.lt_succ_of_lt hi]
    · rw [List.getElem?_append_right (by simp; omega), List.getElem?_append_right (by simp; omega)]
      simp [Nat.min_eq_left (Nat.le_of_lt h), Nat.min_eq_left h]
      congr 1
      omega
/-- What f.rows answers. -/
def rowsF (key bk m1 j : Int) (F : Nat → Int) (n k : Nat) : List Int :=
  if j = 1 then sampleF (sumF key F n) m1 k
  else (sampleF (sumF key F n) (m1 / j) k).map (fun d => IntKind.u64.wrap (d + IntKind.u64.wrap (hi64 (sumF bk F n) j * (m1 / j))))
/-- What the callers of f.rows pay: how Grow answers at their slice, in every world that they may be in. -/
structure Dst (bf : Nat) (xa : Option Addr) (xn : Nat) (a : Option Addr) (c k : Nat) (Pre : World → Prop) (Q : Nat → Nat → Array Value → TypeId → Prop) : Prop where
  kept : ∀ w w', Pre w → Below w.heap.size w w' → Pre w'
  grow : ∀ w, Pre w → Calls Yba.prog 33 #[.slice a 0 c, .int .i64 k] w fun e w' => ∃ B o G cur ty, e = .returned (.slice (some ⟨B, o, none⟩) 0 G) ∧ G0 k w w' B o G cur ty ∧ Q B o cur ty
  nef : ∀ B o cur ty, Q B o cur ty → bf ≠ B
  nex : 0 < xn → ∀ B o cur ty, Q B o cur ty → ∀ b off, xa = some ⟨b, off, none⟩ → b ≠ B
set_option maxRecDepth 100000 in
set_option maxHeartbeats 400000 in
theorem rows_flat (bf : Nat) (m1 key : Int) (xa : Option Addr) (xn xc : Nat) (F : Nat → Int) (bk : Int) (a : Option Addr) (c k : Nat) (Pre : World → Prop) (Q : Nat → Nat → Array Value → TypeId → Prop) (w : World) (hk : k = 1 ∨ k = 2)
    (hf0 : w.cell? ⟨bf, 0, none⟩ = some (.int .i64 3)) (hf1 : w.cell? ⟨bf, 1, none⟩ = some (.int .u64 m1)) (hf3 : w.cell? ⟨bf, 3, none⟩ = some (.int .u64 k)) (hf5 : w.cell? ⟨bf, 5, none⟩ = some (.int .u64 1)) (hf8 : w.cell? ⟨bf, 8, none⟩ = some (.int .u64 key))
    (hkey : 0 ≤ key ∧ key ≤ 18446744073709551615) (hn : xn ≤ 4096) (hC : CameB w xa xn xc F) (hD : Dst bf xa xn a c k Pre Q) (hP : Pre w) :
    Calls Yba.prog 16 #[.pointer (some ⟨bf, 0, none⟩), .slice xa xn xc, .slice a 0 c, .pointer none] w fun e w' => ∃ B o G cur ty, e = .returned (.slice (some ⟨B, o, none⟩) k G) ∧ Drew (rowsF key bk m1 1 F xn k) w w' B o G cur ty ∧ Q B o cur ty := by
  have HC := hid hC
  have HD := hid hD
  have HP := hid hP
  have H1 := hid hf1
  have H3 := hid hf3
  have H5 := hid hf5
  have hlt : bf < w.heap.size := World.block_lt_of_cell? w _ hf0
  have HSUM := hid (sum_all key xa xn xc F w hkey.1 hkey.2 hn HC.out)
  have hsb := sumF_bd key F xn
  have HR : Hid (rowsF key bk m1 1 F xn k = sampleF (sumF key F xn) m1 k) := by unfold Hid rowsF; rw [if_pos rfl]
  obtain ⟨h, hh⟩ : ∃ h, sumF key F xn = h := ⟨_, rfl⟩
  rw [hh] at HSUM hsb HR
  clear hh hC hD hP
  go_enter Yba.func16, Yba.ntmps16
  go_wp2_with (go_at_call 14; refine HSUM.out.mono ?_; rintro e w1 ⟨rfl, hb1⟩; have c1 := (hb1.cell (p := ⟨bf, 1, none⟩) hlt).trans H1.out; have c3 := (hb1.cell (p := ⟨bf, 3, none⟩) hlt).trans H3.out; have c5 := (hb1.cell (p := ⟨bf, 5, none⟩) hlt).trans H5.out)
  clear hf0 hf1 hf3 hf5 hf8
  have HS := hid (sample_k a c k h m1 w1.drew Q hk hsb (HD.out.grow _ (HD.out.kept _ _ HP.out hb1.drew)))
  go_region_held3 (fun w' => w'.cell? ⟨bf, 1, none⟩ = some (.int .u64 m1) ∧ w'.cell? ⟨bf, 3, none⟩ = some (.int .u64 k)) (first | go_keep | exact ⟨hd2.gr.cell (a := ⟨bf, 1, none⟩) c1 hne2, hd2.gr.cell (a := ⟨bf, 3, none⟩) c3 hne2⟩)
    ((go_at_call 24; refine HS.out.mono ?_; rintro e w2 ⟨B, o, G, cur, ty, rfl, hd2, hQ⟩; have hne2 : (some bf : Option Nat) ≠ some B := by simpa using HD.out.nef _ _ _ _ hQ))
  go_wp2
  go_ret
  refine ⟨B, o, G, cur, ty, rfl, ?_, hQ⟩
  rw [HR.out]
  exact ⟨grownBy.then (grownOfBelow hb1.drew _) hd2.gr, hd2.row, hd2.fit, hd2.kG, hd2.Gm⟩

set_option maxRecDepth 100000 in
set_option maxHeartbeats 800000 in
theorem rows_block (bf : Nat) (m1 m2 k2 j key bk : Int) (xa : Option Addr) (xn xc : Nat) (F : Nat → Int) (a : Option Addr) (c k : Nat) (Pre : World → Prop) (Q : Nat → Nat → Array Value → TypeId → Prop) (w : World) (hk : k = 1 ∨ k = 2)
    (hf0 : w.cell? ⟨bf, 0, none⟩ = some (.int .i64 3)) (hf1 : w.cell? ⟨bf, 1, none⟩ = some (.int .u64 m1)) (hf2 : w.cell? ⟨bf, 2, none⟩ = some (.int .u64 m2)) (hf3 : w.cell? ⟨bf, 3, none⟩ = some (.int .u64 k)) (hf4 : w.cell? ⟨bf, 4, none⟩ = some (.int .u64 k2)) (hf5 : w.cell? ⟨bf, 5, none⟩ = some (.int .u64 j)) (hf8 : w.cell? ⟨bf, 8, none⟩ = some (.int .u64 key)) (hf10 : w.cell? ⟨bf, 10, none⟩ = some (.int .u64 bk))
    (hm : 0 ≤ m1 ∧ m1 ≤ 18446744073709551615) (hj : 1 ≤ j ∧ j ≤ 18446744073709551615) (hj1 : (j == 1) = false)
    (hkey : 0 ≤ key ∧ key ≤ 18446744073709551615) (hbk : 0 ≤ bk ∧ bk ≤ 18446744073709551615) (hn : xn ≤ 4096) (hC : CameB w xa xn xc F) (hD : Dst bf xa xn a c k Pre Q) (hP : Pre w) :
    Calls Yba.prog 16 #[.pointer (some ⟨bf, 0, none⟩), .slice xa xn xc, .slice a 0 c, .pointer none] w fun e w' => ∃ B o G cur ty, e = .returned (.slice (some ⟨B, o, none⟩) k G) ∧ Drew (rowsF key bk m1 j F xn k) w w' B o G cur ty ∧ Q B o cur ty := by
  have HC := hid hC
  have HD := hid hD
  have HP := hid hP
  have H1 := hid hf1
  have H2 := hid hf2
  have H3 := hid hf3
  have H4 := hid hf4
  have H5 := hid hf5
  have H0 := hid hf0
  have H10 := hid hf10
  have hlt : bf < w.heap.size := World.block_lt_of_cell? w _ hf0
  have HSUM := hid (sum_all key xa xn xc F w hkey.1 hkey.2 hn HC.out)
  have hsb := sumF_bd key F xn
  have HR : Hid (rowsF key bk m1 j F xn k = (sampleF (sumF key F xn) (m1 / j) k).map (fun d => IntKind.u64.wrap (d + IntKind.u64.wrap (hi64 (sumF bk F xn) j * (m1 / j))))) := by
    unfold Hid rowsF; rw [if_neg (by simpa using hj1)]
  obtain ⟨h, hh⟩ : ∃ h, sumF key F xn = h := ⟨_, rfl⟩
  rw [hh] at HSUM hsb HR
  clear hh hC hD hP
  go_enter Yba.func16, Yba.ntmps16
  go_wp2_with (go_at_call 14; refine HSUM.out.mono ?_; rintro e w1 ⟨rfl, hb1⟩; have c0 := (hb1.cell (p := ⟨bf, 0, none⟩) hlt).trans H0.out; have c1 := (hb1.cell (p := ⟨bf, 1, none⟩) hlt).trans H1.out; have c2 := (hb1.cell (p := ⟨bf, 2, none⟩) hlt).trans H2.out; have c3 := (hb1.cell (p := ⟨bf, 3, none⟩) hlt).trans H3.out; have c4 := (hb1.cell (p := ⟨bf, 4, none⟩) hlt).trans H4.out; have c5 := (hb1.cell (p := ⟨bf, 5, none⟩) hlt).trans H5.out)
  refine (blockRows_any 3 m1 m2 k k2 j w1 hm hj).mono ?_
  rintro e w2 ⟨rfl, hb2⟩
  have hb12 : Below w.heap.size w w2 := hb1.trans (hb2.mono hb1.size)
  clear c0 c1 c2 c3 c4 c5 hf0 hf1 hf2 hf3 hf4 hf5 hf8 hf10
  have c3 := (hb12.cell (p := ⟨bf, 3, none⟩) hlt).trans H3.out
  have hq : 0 ≤ m1 / j ∧ m1 / j ≤ 18446744073709551615 := ⟨Int.ediv_nonneg hm.1 (by omega), Int.le_trans (Int.ediv_le_self _ hm.1) hm.2⟩
  obtain ⟨q, hqe⟩ : ∃ q, m1 / j = q := ⟨_, rfl⟩
  rw [hqe] at hq HR ⊢
  clear hqe
  have HS := hid (sample_k a c k h q w2 Q hk hsb (HD.out.grow _ (HD.out.kept _ _ HP.out hb12)))
  go_wp2_with (go_at_call 24; refine HS.out.mono ?_; rintro e w3 ⟨B, o, G, cur, ty, rfl, hd3, hQ⟩; have hne3 : (some bf : Option Nat) ≠ some B := by simpa using HD.out.nef _ _ _ _ hQ)
  have c10 := hd3.gr.cell (a := ⟨bf, 10, none⟩) ((hb12.cell (p := ⟨bf, 10, none⟩) hlt).trans H10.out) hne3
  have c5 := hd3.gr.cell (a := ⟨bf, 5, none⟩) ((hb12.cell (p := ⟨bf, 5, none⟩) hlt).trans H5.out) hne3
  have HC3 : Hid (CameB w3 xa xn xc F) := ⟨HC.out.1, HC.out.2.1, fun hpos => by
    obtain ⟨b, off, e, hB⟩ := HC.out.2.2 hpos
    refine ⟨b, off, e, fun i hi => ?_, hB.2⟩
    exact hd3.gr.cell (a := ⟨b, off + i, none⟩) ((hb12.cell (p := ⟨b, off + i, none⟩) (World.block_lt_of_cell? w ⟨b, off + i, none⟩ (hB.1 i hi))).trans (hB.1 i hi)) (by simpa using HD.out.nex hpos _ _ _ _ hQ b off e)⟩
  have k10 := cell_regrown c10
  have k5 := cell_regrown c5
  have CS : Hid (∀ d os, Calls Yba.prog 14 #[.int .u64 bk, .slice xa xn xc] (grow (redrawn w3 d) os) fun e w'' => e = .returned (.int .u64 (sumF bk F xn)) ∧ ∃ p : Regrown, w'' = grow (redrawn w3 p.d) p.os) :=
    fun d os => Calls.regrown_of (sum_all bk xa xn xc F _ hbk.1 hbk.2 hn (HC3.out.later (below_regrown w3 d os)))
  have hsb2 := sumF_bd bk F xn
  have CM : Hid (∀ d os, Calls Yba.prog 11 #[.int .u64 (sumF bk F xn), .int .u64 j] (grow (redrawn w3 d) os) fun e w'' => e = .returned (.tuple #[.int .u64 (hi64 (sumF bk F xn) j), .int .u64 (lo64 (sumF bk F xn) j)]) ∧ ∃ p : Regrown, w'' = grow (redrawn w3 p.d) p.os) :=
    fun d os => (mul64_any _ _ hsb2.1 hsb2.2 (by omega) hj.2 _).mono fun e w' ⟨h1, h2⟩ => ⟨h1, ⟨d, os⟩, h2.symm⟩
  generalize sumF bk F xn = h2 at *
  generalize hi64 h2 j = bl at *
  generalize lo64 h2 j = lo at *
  refine wp_region_quiet_below mixed (by kernel_rfl) ?_
  repeat (quiet_step (first | (go_at_call 14; exact CS.out _ _) | (go_at_call 11; exact CM.out _ _)))
  refine wpQuiet_nil ?_
  intro _ hw'
  obtain ⟨⟨dq, osq⟩, hw''⟩ := hw'
  subst hw''
  have hb4 := below_regrown w3 dq osq
  generalize grow (redrawn w3 dq) osq = w4 at *
  clear CS CM k10 k5 c10 c5 HC3 c3
  have hl := sampleF_len h q k hk
  have hr4 : w4.heap[B]? = some (.cells (putInts cur o (sampleF h q k)) ty (0, 0)) := (hb4.block _ (lt_of_block hd3.row)).trans hd3.row
  have HG4 := hid (show w.grownBy w4 (some B) from grownBy.then (grownBy.then (grownOfBelow hb12 _) hd3.gr) (grownOfBelow hb4 _))
  have hfit := hd3.fit
  have hkG := hd3.kG
  have hGm := hd3.Gm
  have hk2 : k ≤ 2 := by omega
  generalize sampleF h q k = ds at *
  go_wp2
  go_loopw [94] (fun x wr => ∃ t : Nat, t ≤ k ∧ x = .int .i64 t ∧ Hid (w.grownBy wr (some B)) ∧ Hid (wr.heap[B]? = some (.cells (putInts cur o (mapTo (fun d => IntKind.u64.wrap (d + IntKind.u64.wrap (bl * q))) t ds)) ty (0, 0)))) (fun x _ => k - (intOf x).toNat)
  case atStart => exact ⟨0, Nat.zero_le _, rfl, HG4, hr4⟩
  case round =>
    clear HG4 hr4
    obtain ⟨t, ht, rfl, hg, hrow⟩ := hrel
    by_cases htk : t < k
    · have hml := mapTo_len (fun d => IntKind.u64.wrap (d + IntKind.u64.wrap (bl * q))) t ds
      have hc := cellPut hrow.out (by omega) t (by omega)
      rw [mapTo_get _ _ _ (by omega)] at hc
      have hfr := frozen_of_row wr B (o + t) _ ty hrow.out
      have hst := mapTo_set (fun d => IntKind.u64.wrap (d + IntKind.u64.wrap (bl * q))) t ds (by omega)
      generalize ds.getD t 0 = d at *
      have hnew : Hid ((wr.setCell ⟨B, o + t, none⟩ (.int .u64 (IntKind.u64.wrap (d + IntKind.u64.wrap (bl * q))))).heap[B]? = some (.cells (putInts cur o (mapTo (fun d => IntKind.u64.wrap (d + IntKind.u64.wrap (bl * q))) (t + 1) ds)) ty (0, 0))) := by
        unfold Hid
        rw [heap_setCell_same wr B (o + t) _ ty _ hrow.out, putInts_set (by omega) t (by omega), hst]
      have hgn : Hid (w.grownBy (wr.setCell ⟨B, o + t, none⟩ (.int .u64 (IntKind.u64.wrap (d + IntKind.u64.wrap (bl * q))))) (some B)) :=
        ⟨hg.out.os, hg.out.tape, hg.out.output, by simpa [World.setCell] using hg.out.size, fun i hi hne => by rw [heap_setCell_other _ _ _ _ (by intro e; exact hne (by rw [e]))]; exact hg.out.block i hi hne⟩
      clear hst
      go_wp2
      go_roundw
      case rel => exact ⟨t + 1, by omega, by go_num, hgn, hnew⟩
      case measure => simp [intOf]; omega
    · obtain rfl : k = t := by omega
      go_wp2
      go_ret
      refine ⟨B, o, G, cur, ty, rfl, ?_, hQ⟩
      rw [HR.out]
      refine ⟨hg.out, ?_, by simpa using hfit, by simpa using hkG, hGm⟩
      rw [hrow.out, ← hl, mapTo_all]

theorem rows_all (bf : Nat) (m1 m2 k2 j key bk : Int) (xa : Option Addr) (xn xc : Nat) (F : Nat → Int) (a : Option Addr) (c k : Nat) (Pre : World → Prop) (Q : Nat → Nat → Array Value → TypeId → Prop) (w : World) (hk : k = 1 ∨ k = 2)
    (hf0 : w.cell? ⟨bf, 0, none⟩ = some (.int .i64 3)) (hf1 : w.cell? ⟨bf, 1, none⟩ = some (.int .u64 m1)) (hf2 : w.cell? ⟨bf, 2, none⟩ = some (.int .u64 m2)) (hf3 : w.cell? ⟨bf, 3, none⟩ = some (.int .u64 k)) (hf4 : w.cell? ⟨bf, 4, none⟩ = some (.int .u64 k2)) (hf5 : w.cell? ⟨bf, 5, none⟩ = some (.int .u64 j)) (hf8 : w.cell? ⟨bf, 8, none⟩ = some (.int .u64 key)) (hf10 : w.cell? ⟨bf, 10, none⟩ = some (.int .u64 bk))
    (hm : 0 ≤ m1 ∧ m1 ≤ 18446744073709551615) (hj : 1 ≤ j ∧ j ≤ 18446744073709551615)
    (hkey : 0 ≤ key ∧ key ≤ 18446744073709551615) (hbk : 0 ≤ bk ∧ bk ≤ 18446744073709551615) (hn : xn ≤ 4096) (hC : CameB w xa xn xc F) (hD : Dst bf xa xn a c k Pre Q) (hP : Pre w) :
    Calls Yba.prog 16 #[.pointer (some ⟨bf, 0, none⟩), .slice xa xn xc, .slice a 0 c, .pointer none] w fun e w' => ∃ B o G cur ty, e = .returned (.slice (some ⟨B, o, none⟩) k G) ∧ Drew (rowsF key bk m1 j F xn k) w w' B o G cur ty ∧ Q B o cur ty := by
  by_cases h1 : j = 1
  · subst h1
    exact rows_flat bf m1 key xa xn xc F bk a c k Pre Q w hk hf0 hf1 hf3 hf5 hf8 hkey hn hC hD hP
  · exact rows_block bf m1 m2 k2 j key bk xa xn xc F a c k Pre Q w hk hf0 hf1 hf2 hf3 hf4 hf5 hf8 hf10 hm hj (by simpa using h1) hkey hbk hn hC hD hP
theorem rowsF_len (key bk m1 j : Int) (F : Nat → Int) (n k : Nat) (hk : k = 1 ∨ k = 2) : (rowsF key bk m1 j F n k).length = k := by
  unfold rowsF
  split
  · exact sampleF_len _ _ _ hk
  · rw [List.length_map]; exact sampleF_len _ _ _ hk
#print axioms rows_all
end Go.Proofs.Ybulkdaju
