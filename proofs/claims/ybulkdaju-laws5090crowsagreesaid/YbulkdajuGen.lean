/-
  fill, the closure of fixRows, ByKey on the general path.
-/
import Derived.Test.YbulkdajuFRows
namespace Go.Proofs.Ybulkdaju
open Go.RowKit Go.Sort
/-- The batch, its k numbers ds among its cells. -/
def batchOf (p0 p1 p2 : Value) (k : Nat) (ds : List Int) : Array Value := putInts (batch p0 p1 p2 k 0 0 0 0 (.slice none 0 0)) 4 ds
theorem batchOf_zero (p0 p1 p2 : Value) (k : Nat) (hk : k = 1 ∨ k = 2) : batchOf p0 p1 p2 k (List.replicate k 0) = batch p0 p1 p2 k 0 0 0 0 (.slice none 0 0) := by
  rcases hk with rfl | rfl <;> rfl
/-- The slice of the batch's own room. -/
theorem dst_small (bf B : Nat) (xa : Option Addr) (xn : Nat) (p0 p1 p2 : Value) (k : Nat) (hk : k = 1 ∨ k = 2) (hne : bf ≠ B) (hx : 0 < xn → ∀ b off, xa = some ⟨b, off, none⟩ → b ≠ B) :
    Dst bf xa xn (some ⟨B, 4, none⟩) 4 k (fun w => w.heap[B]? = some (.cells (batch p0 p1 p2 k 0 0 0 0 (.slice none 0 0)) 63 (0, 0))) (fun B' o cur ty => B' = B ∧ o = 4 ∧ cur = batch p0 p1 p2 k 0 0 0 0 (.slice none 0 0) ∧ ty = 63) := by
  refine ⟨fun w w' h hb => ?_, fun w h => ?_, ?_, ?_⟩
  · exact (hb.block _ (lt_of_block h)).trans h
  · refine (grow_room (some ⟨B, 4, none⟩) k w (by omega)).mono fun e w' ⟨h1, h2⟩ => ?_
    subst h2
    refine ⟨B, 4, 4, _, 63, h1, ⟨Below.refl _ _, ?_, ?_, by omega, by omega⟩, rfl, rfl, rfl, rfl⟩
    · rw [h]; exact congrArg (fun c => some (Obj.cells c 63 (0, 0))) (batchOf_zero p0 p1 p2 k hk).symm
    · simp [batch]; omega
  · rintro B' o cur ty ⟨rfl, _⟩; exact hne
  · rintro hpos B' o cur ty ⟨rfl, _⟩; exact hx hpos
/-- The slice that is nil. -/
theorem dst_nil (bf S : Nat) (xa : Option Addr) (xn : Nat) (k : Nat) (hk : k = 1 ∨ k = 2) (hbf : bf < S) (hx : 0 < xn → ∀ b off, xa = some ⟨b, off, none⟩ → b < S) :
    Dst bf xa xn none 0 k (fun w => S ≤ w.heap.size) (fun B _ _ _ => S ≤ B) := by
  refine ⟨fun w w' h hb => Nat.le_trans h hb.size, fun w h => ?_, ?_, ?_⟩
  · refine (grow_nil k w (by omega) (by omega)).mono fun e w' ⟨G, cur, h1, h2⟩ => ?_
    exact ⟨w.heap.size, 0, G, cur, 23, h1, h2, h⟩
  · intro B o cur ty h; omega
  · intro hpos B o cur ty h b off e; have := hx hpos b off e; omega

/-- The cells of the filter that f.rows reads. -/
structure FiltC (w : World) (bf : Nat) (m1 m2 k2 j key bk : Int) (k : Nat) : Prop where
  f0 : w.cell? ⟨bf, 0, none⟩ = some (.int .i64 3)
  f1 : w.cell? ⟨bf, 1, none⟩ = some (.int .u64 m1)
  f2 : w.cell? ⟨bf, 2, none⟩ = some (.int .u64 m2)
  f3 : w.cell? ⟨bf, 3, none⟩ = some (.int .u64 k)
  f4 : w.cell? ⟨bf, 4, none⟩ = some (.int .u64 k2)
  f5 : w.cell? ⟨bf, 5, none⟩ = some (.int .u64 j)
  f8 : w.cell? ⟨bf, 8, none⟩ = some (.int .u64 key)
  f10 : w.cell? ⟨bf, 10, none⟩ = some (.int .u64 bk)
def U64 (x : Int) : Prop := 0 ≤ x ∧ x ≤ 18446744073709551615

set_option maxRecDepth 100000 in
set_option maxHeartbeats 400000 in
theorem closure_any (bf B q1 q2 : Nat) (m1 m2 k2 j key bk : Int) (k : Nat) (xa : Option Addr) (xn xc : Nat) (F : Nat → Int) (p0 p1 p2 : Value) (V : World) (hk : k = 1 ∨ k = 2)
    (hF : FiltC V bf m1 m2 k2 j key bk k) (hm : U64 m1) (hj : 1 ≤ j ∧ j ≤ 18446744073709551615) (hkey : U64 key) (hbk : U64 bk) (hn : xn ≤ 4096) (hC : CameB V xa xn xc F)
    (hne : bf ≠ B) (hx : 0 < xn → ∀ b off, xa = some ⟨b, off, none⟩ → b ≠ B) (hB : V.heap[B]? = some (.cells (batch p0 p1 p2 k 0 0 0 0 (.slice none 0 0)) 63 (0, 0)))
    (h1 : V.cell? ⟨q1, 0, none⟩ = some (.pointer (some ⟨bf, 0, none⟩))) (h2 : V.cell? ⟨q2, 0, none⟩ = some (.slice xa xn xc)) :
    Calls Yba.prog 30 #[.slice (some ⟨B, 4, none⟩) 0 4, .pointer none, .pointer (some ⟨q1, 0, none⟩), .pointer (some ⟨q2, 0, none⟩)] V fun e w' => (∃ G, e = .returned (.slice (some ⟨B, 4, none⟩) k G)) ∧ V.grownBy w' (some B) ∧ w'.heap[B]? = some (.cells (batchOf p0 p1 p2 k (rowsF key bk m1 j F xn k)) 63 (0, 0)) := by
  have HR := hid (rows_all bf m1 m2 k2 j key bk xa xn xc F (some ⟨B, 4, none⟩) 4 k _ _ V hk hF.f0 hF.f1 hF.f2 hF.f3 hF.f4 hF.f5 hF.f8 hF.f10 hm hj hkey hbk hn hC (dst_small bf B xa xn p0 p1 p2 k hk hne hx) hB)
  clear hF hC hB
  go_enter Yba.func30, Yba.ntmps30
  go_wp2_with (go_at_call 16; refine HR.out.mono ?_; rintro e w1 ⟨B', o, G, cur, ty, rfl, hd, rfl, rfl, rfl, rfl⟩)
  go_ret
  exact ⟨⟨G, rfl⟩, hd.gr, hd.row⟩

set_option maxRecDepth 100000 in
set_option maxHeartbeats 400000 in
theorem fill_any (bf B q1 q2 : Nat) (m1 m2 k2 j key bk : Int) (k : Nat) (xa : Option Addr) (xn xc : Nat) (F : Nat → Int) (p0 p1 p2 : Value) (V : World) (hk : k = 1 ∨ k = 2)
    (hF : FiltC V bf m1 m2 k2 j key bk k) (hm : U64 m1) (hj : 1 ≤ j ∧ j ≤ 18446744073709551615) (hkey : U64 key) (hbk : U64 bk) (hn : xn ≤ 4096) (hC : CameB V xa xn xc F)
    (hne : bf ≠ B) (hx : 0 < xn → ∀ b off, xa = some ⟨b, off, none⟩ → b ≠ B) (hB : V.heap[B]? = some (.cells (batch p0 p1 p2 0 0 0 0 0 (.slice none 0 0)) 63 (0, 0))) (hq1 : q1 ≠ B) (hq2 : q2 ≠ B)
    (h1 : V.cell? ⟨q1, 0, none⟩ = some (.pointer (some ⟨bf, 0, none⟩))) (h2 : V.cell? ⟨q2, 0, none⟩ = some (.slice xa xn xc)) :
    Calls Yba.prog 29 #[.pointer (some ⟨B, 3, none⟩), .int .u64 k, .func (Fn.func 30) #[] #[.pointer (some ⟨q1, 0, none⟩), .pointer (some ⟨q2, 0, none⟩)]] V fun e w' => e = .returned (.tuple #[]) ∧ V.grownBy w' (some B) ∧ w'.heap[B]? = some (.cells (batchOf p0 p1 p2 k (rowsF key bk m1 j F xn k)) 63 (0, 0)) := by
  have c3 := cell_of_row V B 3 _ 63 (0, 0) hB
  have f3 := frozen_of_row V B 3 _ 63 hB
  simp [batch] at c3
  have hW : (V.setCell ⟨B, 3, none⟩ (.int .u64 k)).heap[B]? = some (.cells (batch p0 p1 p2 k 0 0 0 0 (.slice none 0 0)) 63 (0, 0)) := by
    rw [heap_setCell_same V B 3 _ 63 _ hB]; rfl
  have hoth : ∀ b o v, b ≠ B → V.cell? ⟨b, o, none⟩ = some v → (V.setCell ⟨B, 3, none⟩ (.int .u64 k)).cell? ⟨b, o, none⟩ = some v := fun b o v hb h => by
    rw [World.cell?_of_block (heap_setCell_other V _ b _ hb)]; exact h
  have HG := hid (show V.grownBy (V.setCell ⟨B, 3, none⟩ (.int .u64 k)) (some B) from ⟨rfl, rfl, rfl, by simp [World.setCell], fun i hi hne => heap_setCell_other V ⟨B, 3, none⟩ i _ (by intro e; exact hne (by rw [e]))⟩)
  have HCl := hid (closure_any bf B q1 q2 m1 m2 k2 j key bk k xa xn xc F p0 p1 p2 (V.setCell ⟨B, 3, none⟩ (.int .u64 k)) hk
    ⟨hoth _ _ _ hne hF.f0, hoth _ _ _ hne hF.f1, hoth _ _ _ hne hF.f2, hoth _ _ _ hne hF.f3, hoth _ _ _ hne hF.f4, hoth _ _ _ hne hF.f5, hoth _ _ _ hne hF.f8, hoth _ _ _ hne hF.f10⟩ hm hj hkey hbk hn
    ⟨hC.1, hC.2.1, fun hpos => by obtain ⟨b, off, e, hBy⟩ := hC.2.2 hpos; exact ⟨b, off, e, fun i hi => hoth _ _ _ (hx hpos b off e) (hBy.1 i hi), hBy.2⟩⟩ hne hx hW (hoth _ _ _ hq1 h1) (hoth _ _ _ hq2 h2))
  have hk4 : (k : Int) ≤ 4 := by omega
  clear hF hC hB hoth hW h1 h2
  go_enter Yba.func29, Yba.ntmps29
  go_wp2_with (go_at_call 30; refine HCl.out.mono ?_; rintro e w1 ⟨⟨G, rfl⟩, hg1, hr1⟩)
  go_end0
  exact ⟨rfl, grownBy.then HG.out hg1, hr1⟩

theorem indices_of (B : Nat) (p0 p1 p2 : Value) (k : Nat) (hk : k = 1 ∨ k = 2) (ds : List Int) (hl : ds.length = k) (w : World) (hB : w.heap[B]? = some (.cells (batchOf p0 p1 p2 k ds) 63 (0, 0))) :
    Calls Yba.prog 31 #[.pointer (some ⟨B, 3, none⟩)] w fun e w' => e = .returned (.slice (some ⟨B, 4, none⟩) k 4) ∧ ∃ d, w' = w.drewN d := by
  rcases hk with rfl | rfl
  · match ds, hl with
    | [x], _ => exact indices_any B p0 p1 p2 1 x 0 0 0 w (by omega) hB
  · match ds, hl with
    | [x, y], _ => exact indices_any B p0 p1 p2 2 x y 0 0 w (by omega) hB

set_option maxRecDepth 100000 in
set_option maxHeartbeats 800000 in
theorem byKey_gen (bf : Nat) (m1 m2 k2 j key bk : Int) (k : Nat) (colFew : Bool) (a : Option Addr) (n cap : Nat) (F : Nat → Int) (w : World) (hk : k = 1 ∨ k = 2)
    (hF : FiltC w bf m1 m2 k2 j key bk k) (hm : U64 m1) (hj : 1 ≤ j ∧ j ≤ 18446744073709551615) (hkey : U64 key) (hbk : U64 bk)
    (hf16 : w.cell? ⟨bf, 16, none⟩ = some (.bool false)) (hf21 : w.cell? ⟨bf, 21, none⟩ = some (.bool colFew))
    (hn' : n ≤ 4096) (hC : CameB w a n cap F) :
    Calls Yba.prog 13 #[.pointer (some ⟨bf, 0, none⟩), .slice a n cap] w fun e w' => e = .returned (.pointer (some ⟨w.heap.size, 0, none⟩)) ∧ Below w.heap.size w w' ∧
      w'.heap[w.heap.size]? = some (.cells (batchOf (.pointer (some ⟨bf, 0, none⟩)) (.pointer (some ⟨bf, 17, none⟩)) (.bool true) k (if colFew then (rowsF key bk m1 j F n k).map (fun d => IntKind.u64.wrap (d * m2)) else rowsF key bk m1 j F n k)) 63 (0, 0)) := by
  have hlt : bf < w.heap.size := World.block_lt_of_cell? w _ hF.f0
  have g0 := cell3 hF.f0
  have g16 := cell3 hf16
  have HF := hid hF
  have H21 := hid hf21
  have HC := hid hC
  have hrl := rowsF_len key bk m1 j F n k hk
  clear hf16 hf21 hF hC
  go_enter Yba.func13, Yba.ntmps13
  go_wp2
  go_region_held3 (fun w' => w'.cell? ⟨w.heap.size + 1, 0, none⟩ = some (.pointer (some ⟨bf, 0, none⟩))) (go_keep) (fail)
  go_wp2
  have hfx := Fix.start w bf a n cap (batch (.pointer (some ⟨bf, 0, none⟩)) (.pointer (some ⟨bf, 17, none⟩)) (.bool true) 0 0 0 0 0 (.slice none 0 0))
  unfold batch at hfx
  generalize (((w.alloc _).alloc _).alloc _).drew = W at *
  have HX := hid hfx
  clear g0 g16
  have c1 := hfx.pf
  have c3 := hfx.cell HF.out.f3
  clear hfx
  have HFill := hid (fill_any bf w.heap.size (w.heap.size + 1) (w.heap.size + 1 + 1) m1 m2 k2 j key bk k a n cap F _ _ _ W.drew hk
    ⟨HX.out.cell HF.out.f0, HX.out.cell HF.out.f1, HX.out.cell HF.out.f2, HX.out.cell HF.out.f3, HX.out.cell HF.out.f4, HX.out.cell HF.out.f5, HX.out.cell HF.out.f8, HX.out.cell HF.out.f10⟩ hm hj hkey hbk hn' (HC.out.later HX.out.below.drew)
    (by omega) (fun hpos b off e => by
      obtain ⟨b', off', e', hBy⟩ := HC.out.2.2 hpos
      have hb' := World.block_lt_of_cell? w ⟨b', off' + 0, none⟩ (hBy.1 0 hpos)
      rw [e'] at e
      cases e
      exact Nat.ne_of_lt hb') HX.out.bat (by omega) (by omega) HX.out.pf HX.out.px)
  go_region_held3 (fun w' => w'.cell? ⟨w.heap.size + 1, 0, none⟩ = some (.pointer (some ⟨bf, 0, none⟩)) ∧ w'.cell? ⟨bf, 3, none⟩ = some (.int .u64 k)) (first | go_keep | exact ⟨HX3.out.pf, HX3.out.cell HF.out.f3⟩) ((go_at_call 29; refine HFill.out.mono ?_; rintro e w3 ⟨rfl, hg3, hb3⟩; have HX3 := hid (Fix.grown (W := W.drew) (HX.out.later ((Below.refl _ _).drew)) hg3 hb3)))
  clear HFill hg3 hb3 HX c1 c3
  have c1 := HX3.out.pf
  have c21 := HX3.out.cell H21.out
  cases colFew with
  | false =>
    go_wp2
    go_end0
    go_wp2
    go_ret
    exact ⟨rfl, HX3.out.below, HX3.out.bat⟩
  | true =>
    have c2 := HX3.out.cell HF.out.f2
    have HI := hid (indices_of w.heap.size _ _ _ k hk _ hrl w3 HX3.out.bat)
    go_wp2_with (go_at_call 31; refine HI.out.mono ?_; rintro e w4 ⟨rfl, d4, rfl⟩)
    obtain ⟨ds, hds⟩ : ∃ ds, rowsF key bk m1 j F n k = ds := ⟨_, rfl⟩
    rw [hds] at HX3 hrl
    have HDS := hid hds
    clear hds
    have hk2 : k ≤ 2 := by omega
    have HX4 : Hid (Fix w (w3.drewN d4) bf a n cap (batchOf (.pointer (some ⟨bf, 0, none⟩)) (.pointer (some ⟨bf, 17, none⟩)) (.bool true) k (mapTo (fun d => IntKind.u64.wrap (d * m2)) 0 ds))) := HX3.out.later (below_drewN (Below.refl _ _) d4)
    generalize w3.drewN d4 = w4 at *
    clear HX3 HI c1 c2 c21
    go_loopw [81] (fun x wr => ∃ t : Nat, t ≤ k ∧ x = .int .i64 t ∧ Hid (Fix w wr bf a n cap (batchOf (.pointer (some ⟨bf, 0, none⟩)) (.pointer (some ⟨bf, 17, none⟩)) (.bool true) k (mapTo (fun d => IntKind.u64.wrap (d * m2)) t ds)))) (fun x _ => k - (intOf x).toNat)
    case atStart => exact ⟨0, Nat.zero_le _, rfl, HX4⟩
    case round =>
      clear HX4
      obtain ⟨t, ht, rfl, hx⟩ := hrel
      by_cases htk : t < k
      · have hml := mapTo_len (fun d => IntKind.u64.wrap (d * m2)) t ds
        have hc := cellPut (ds := mapTo (fun d => IntKind.u64.wrap (d * m2)) t ds) hx.out.bat (by simp [batch]; omega) t (by omega)
        rw [mapTo_get _ _ _ (by omega)] at hc
        have hfr := frozen_of_row wr w.heap.size (4 + t) _ 63 hx.out.bat
        have hst := mapTo_set (fun d => IntKind.u64.wrap (d * m2)) t ds (by omega)
        have c1 := hx.out.pf
        have c2 := hx.out.cell HF.out.f2
        generalize ds.getD t 0 = d at *
        have hnew : Hid (Fix w (wr.setCell ⟨w.heap.size, 4 + t, none⟩ (.int .u64 (IntKind.u64.wrap (d * m2)))) bf a n cap (batchOf (.pointer (some ⟨bf, 0, none⟩)) (.pointer (some ⟨bf, 17, none⟩)) (.bool true) k (mapTo (fun d => IntKind.u64.wrap (d * m2)) (t + 1) ds))) :=
          hx.out.grown ⟨rfl, rfl, rfl, by simp [World.setCell], fun i hi hne => heap_setCell_other wr _ i _ (by intro e; exact hne (by rw [e]))⟩ (by
            rw [heap_setCell_same wr w.heap.size (4 + t) _ 63 _ hx.out.bat, ← hst]
            unfold batchOf
            rw [putInts_set (by simp [batch]; omega) t (by omega)])
        clear hst
        go_wp2
        go_roundw
        case rel => exact ⟨t + 1, by omega, by go_num, hnew⟩
        case measure => simp [intOf]; omega
      · obtain rfl : k = t := by omega
        go_wp2
        go_end0
        go_wp2
        go_ret
        exact ⟨rfl, hx.out.below, by rw [hx.out.bat, show mapTo (fun d => IntKind.u64.wrap (d * m2)) k ds = ds.map (fun d => IntKind.u64.wrap (d * m2)) from by rw [← hrl, mapTo_all], HDS.out]⟩
#print axioms byKey_gen
end Go.Proofs.Ybulkdaju
