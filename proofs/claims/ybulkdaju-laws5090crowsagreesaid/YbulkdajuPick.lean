/-
  'pick' (function 37), walked: numbers laid into a row.
-/
import Derived.Test.YbulkdajuSum
import Derived.Deep.RegionHeld3
namespace Go.Proofs.Ybulkdaju
open Go.RowKit Go.Sort
theorem hid {p : Prop} (h : p) : Hid p := h

/-- Numbers laid into a row from o on. -/
def putInts (cur : Array Value) (o : Nat) : List Int → Array Value
  | [] => cur
  | d :: ds => putInts (cur.setIfInBounds o (.int .u64 d)) (o + 1) ds
theorem putInts_size (ds : List Int) : ∀ (cur : Array Value) (o : Nat), (putInts cur o ds).size = cur.size := by
  induction ds with
  | nil => intro cur o; rfl
  | cons d ds ih => intro cur o; unfold putInts; rw [ih]; simp
theorem putInts_get (ds : List Int) : ∀ (cur : Array Value) (o j : Nat), o + ds.length ≤ cur.size → (putInts cur o ds)[j]? = if o ≤ j ∧ j < o + ds.length then some (.int .u64 (ds.getD (j - o) 0)) else cur[j]? := by
  induction ds with
  | nil => intro cur o j _; unfold putInts; rw [if_neg (by simp)]
  | cons d ds ih =>
    intro cur o j h
    simp only [List.length_cons] at h
    unfold putInts
    rw [ih _ _ _ (by simp; omega)]
    by_cases h1 : j = o
    · subst h1
      rw [if_neg (by omega), if_pos (by simp), Array.getElem?_setIfInBounds_self_of_lt (by omega), Nat.sub_self]
      rfl
    · by_cases h2 : o ≤ j ∧ j < o + (ds.length + 1)
      · rw [if_pos (by omega), if_pos (by simpa using h2)]
        rw [show j - o = (j - (o + 1)) + 1 by omega]
        rfl
      · rw [if_neg (by omega), if_neg (by simpa using h2)]
        rw [Array.getElem?_setIfInBounds_ne (by omega)]
theorem putInts_self {cur : Array Value} {o : Nat} {ds : List Int} (hs : o + ds.length ≤ cur.size) (h : ∀ i, i < ds.length → cur[o + i]? = some (.int .u64 (ds.getD i 0))) : putInts cur o ds = cur := by
  apply Array.ext_getElem?
  intro j
  rw [putInts_get ds cur o j hs]
  split
  · rename_i hj
    have := h (j - o) (by omega)
    rw [show o + (j - o) = j by omega] at this
    exact this.symm
  · rfl
theorem putInts_set {cur : Array Value} {o : Nat} {ds : List Int} (hs : o + ds.length ≤ cur.size) (i : Nat) (hi : i < ds.length) (v : Int) : (putInts cur o ds).setIfInBounds (o + i) (.int .u64 v) = putInts cur o (ds.set i v) := by
  apply Array.ext_getElem?
  intro j
  rw [putInts_get _ cur o j (by simpa using hs)]
  by_cases h1 : j = o + i
  · subst h1
    rw [if_pos (by simp; omega)]
    rw [Array.getElem?_setIfInBounds_self_of_lt (by rw [putInts_size]; omega)]
    rw [show o + i - o = i by omega, List.getD_eq_getElem?_getD, List.getElem?_set_self hi]
    rfl
  · rw [Array.getElem?_setIfInBounds_ne (by omega), putInts_get ds cur o j hs]
    by_cases h2 : o ≤ j ∧ j < o + ds.length
    · rw [if_pos h2, if_pos (by simpa using h2), List.getD_eq_getElem?_getD, List.getD_eq_getElem?_getD, List.getElem?_set_ne (by omega)]
    · rw [if_neg h2, if_neg (by simpa using h2)]

def scanF (j : Int) : List Int → Int → Int
  | [], t => t
  | u :: us, t => scanF j us (if u == t then j else t)
theorem scanF_snoc (j : Int) (us : List Int) (u t : Int) : scanF j (us ++ [u]) t = if u == scanF j us t then j else scanF j us t := by
  induction us generalizing t with
  | nil => rfl
  | cons x xs ih => exact ih _
def pickStep (base : Int) (i : Nat) (s : List Int × Int) : List Int × Int :=
  (s.1.set i (scanF (IntKind.u64.wrap (base + i)) (s.1.take i) (hi64 s.2 (IntKind.u64.wrap (IntKind.u64.wrap (base + i) + 1)))), lo64 s.2 (IntKind.u64.wrap (IntKind.u64.wrap (base + i) + 1)))
def pickN (base : Int) (start : Nat) (s : List Int × Int) : Nat → List Int × Int
  | 0 => s
  | r + 1 => pickStep base (start + r) (pickN base start s r)
theorem pickN_len (base : Int) (start : Nat) (s : List Int × Int) : ∀ r, (pickN base start s r).1.length = s.1.length
  | 0 => rfl
  | r + 1 => by unfold pickN pickStep; simp [pickN_len base start s r]
theorem pickN_bd (base : Int) (start : Nat) (s : List Int × Int) (h : 0 ≤ s.2 ∧ s.2 ≤ 18446744073709551615) : ∀ r, 0 ≤ (pickN base start s r).2 ∧ (pickN base start s r).2 ≤ 18446744073709551615
  | 0 => h
  | _ + 1 => lo64_bd _ _
theorem wrap_bd (x : Int) : 0 ≤ IntKind.u64.wrap x ∧ IntKind.u64.wrap x ≤ 18446744073709551615 := by rw [IntKind.wrap_u64]; omega

/-- One slot of a row, and that it may be written. -/
theorem cellPut {w : World} {B o : Nat} {cur : Array Value} {t : TypeId} {ds : List Int} (h : w.heap[B]? = some (.cells (putInts cur o ds) t (0, 0))) (hs : o + ds.length ≤ cur.size) (i : Nat) (hi : i < ds.length) : w.cell? ⟨B, o + i, none⟩ = some (.int .u64 (ds.getD i 0)) := by
  rw [cell_of_row w B (o + i) _ t (0, 0) h, putInts_get ds cur o (o + i) hs, if_pos (by omega), show o + i - o = i by omega]
set_option maxRecDepth 100000 in
set_option maxHeartbeats 400000 in
theorem pick_any (B o L c : Nat) (cur : Array Value) (ty : TypeId) (ds : List Int) (start : Nat) (value base : Int) (w : World)
    (hB : w.heap[B]? = some (.cells (putInts cur o ds) ty (0, 0))) (hs : o + ds.length ≤ cur.size) (hL : ds.length = L) (hL' : L ≤ 1000) (hLc : L ≤ c) (hc : c ≤ 9223372036854775807) (hst : start ≤ L) (hv : 0 ≤ value ∧ value ≤ 18446744073709551615) :
    Calls Yba.prog 37 #[.slice (some ⟨B, o, none⟩) L c, .int .u64 start, .int .u64 value, .int .u64 base] w fun e w' => e = .returned (.tuple #[]) ∧ w.grownBy w' (some B) ∧ w'.heap.size = w.heap.size ∧ w'.heap[B]? = some (.cells (putInts cur o (pickN base start (ds, value) (L - start)).1) ty (0, 0)) := by
  have HB := hid hB
  clear hB
  go_enter Yba.func37, Yba.ntmps37
  go_wp2
  go_loopw [2, 8] (fun v x wr => ∃ r : Nat, r + start ≤ L ∧ v = .int .u64 (pickN base start (ds, value) r).2 ∧ x = .int .u64 ((start + r : Nat) : Int) ∧ w.grownBy wr (some B) ∧ Hid (wr.heap.size = w.heap.size) ∧ Hid (wr.heap[B]? = some (.cells (putInts cur o (pickN base start (ds, value) r).1) ty (0, 0)))) (fun _ x _ => L - (intOf x).toNat)
  case atStart => exact ⟨0, by omega, rfl, rfl, ⟨rfl, rfl, rfl, Nat.le_refl _, fun _ _ _ => rfl⟩, rfl, HB.out⟩
  case round =>
    obtain ⟨r, hr, rfl, rfl, hg, hsz, hrow⟩ := hrel
    have hvb := pickN_bd base start (ds, value) hv r
    have hlen := pickN_len base start (ds, value) r
    by_cases hlt : start + r < L
    · have HN : Hid (pickN base start (ds, value) (r + 1) = pickStep base (start + r) (pickN base start (ds, value) r)) := rfl
      obtain ⟨i, hi⟩ : ∃ i, i = start + r := ⟨_, rfl⟩
      rw [← hi] at HN hlt ⊢
      have HI := hid hi
      clear hi
      obtain ⟨es, v0, hev⟩ : ∃ es v0, pickN base start (ds, value) r = (es, v0) := ⟨_, _, rfl⟩
      rw [hev] at HN hrow hvb hlen ⊢
      clear hev
      have hes : es.length = ds.length := hlen
      obtain ⟨j, hj⟩ : ∃ j, IntKind.u64.wrap (base + i) = j := ⟨_, rfl⟩
      obtain ⟨m, hm⟩ : ∃ m, IntKind.u64.wrap (j + 1) = m := ⟨_, rfl⟩
      have hmb : 0 ≤ m ∧ m ≤ 18446744073709551615 := hm ▸ wrap_bd (j + 1)
      have HS : Hid (pickStep base i (es, v0) = (es.set i (scanF j (es.take i) (hi64 v0 m)), lo64 v0 m)) := by
        unfold Hid pickStep; simp only; rw [hj, hm]
      have HM : Hid (Calls Yba.prog 11 #[.int .u64 v0, .int .u64 m] wr fun e w' => e = .returned (.tuple #[.int .u64 (hi64 v0 m), .int .u64 (lo64 v0 m)]) ∧ wr = w') := mul64_any v0 m hvb.1 hvb.2 hmb.1 hmb.2 wr
      obtain ⟨t0, ht0⟩ : ∃ t0, hi64 v0 m = t0 := ⟨_, rfl⟩
      obtain ⟨v1, hv1⟩ : ∃ v1, lo64 v0 m = v1 := ⟨_, rfl⟩
      rw [ht0, hv1] at HS HM
      clear ht0 hv1
      have hii : (i : Int) ≤ (c : Int) := by omega
      go_wp2_with (go_at_call 11; refine HM.out.mono ?_; rintro e w' ⟨rfl, rfl⟩)
      go_loop [10, 35] (fun t x => ∃ q : Nat, q ≤ i ∧ x = .int .i64 q ∧ t = .int .u64 (scanF j (es.take q) t0)) (fun _ x => i - (intOf x).toNat)
      case atStart => exact ⟨0, Nat.zero_le _, rfl, rfl⟩
      case round =>
        obtain ⟨q, hq, rfl, rfl⟩ := hrel
        by_cases hqi : q < i
        · have hcell := cellPut hrow.out (by omega) q (by omega)
          have HQ : Hid (scanF j (es.take (q + 1)) t0 = if es.getD q 0 == scanF j (es.take q) t0 then j else scanF j (es.take q) t0) := by
            unfold Hid
            rw [List.take_succ_eq_append_getElem (by omega), scanF_snoc, List.getD_eq_getElem?_getD, List.getElem?_eq_getElem (by omega)]
            rfl
          generalize es.getD q 0 = u at *
          obtain ⟨t, ht⟩ : ∃ t, scanF j (es.take q) t0 = t := ⟨_, rfl⟩
          rw [ht] at HQ ⊢
          clear ht
          cases hut : (u == t) with
          | true =>
            rw [hut] at HQ
            go_wp2
            go_round
            case rel => exact ⟨q + 1, by omega, by go_num, by rw [HQ.out]; rfl⟩
            case measure => simp [intOf]; omega
          | false =>
            rw [hut] at HQ
            go_wp2
            go_round
            case rel => exact ⟨q + 1, by omega, by go_num, by rw [HQ.out]; rfl⟩
            case measure => simp [intOf]; omega
        · obtain rfl : i = q := by omega
          have hcell := cellPut hrow.out (by omega) i (by omega)
          have hfr := frozen_of_row wr B (o + i) _ ty hrow.out
          obtain ⟨t, ht⟩ : ∃ t, scanF j (es.take i) t0 = t := ⟨_, rfl⟩
          rw [ht] at HS ⊢
          clear ht
          have hnew : Hid ((wr.setCell ⟨B, o + i, none⟩ (.int .u64 t)).heap[B]? = some (.cells (putInts cur o (es.set i t)) ty (0, 0))) := by
            unfold Hid
            rw [heap_setCell_same wr B (o + i) _ ty _ hrow.out, putInts_set (by omega) i (by omega)]
          have hgn : w.grownBy (wr.setCell ⟨B, o + i, none⟩ (.int .u64 t)) (some B) :=
            ⟨hg.os, hg.tape, hg.output, by simpa [World.setCell] using hg.size, fun k hk hne => by rw [heap_setCell_other _ _ _ _ (by intro e; exact hne (by rw [e]))]; exact hg.block k hk hne⟩
          go_wp2
          go_roundw
          case rel => exact ⟨r + 1, by have := HI.out; omega, by rw [HN.out, HS.out], by have := HI.out; go_num, hgn, by unfold Hid; simpa [World.setCell] using hsz.out, by unfold Hid; rw [HN.out, HS.out]; exact hnew.out⟩
          case measure => simp [intOf]; omega
    · go_wp2
      go_end0
      obtain rfl : L - start = r := by omega
      exact ⟨rfl, hg, hsz.out, hrow.out⟩
#print axioms pick_any
end Go.Proofs.Ybulkdaju
