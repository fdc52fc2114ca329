/-
  LawS5090CRowsAgree (function 7), walked.
-/
import Derived.Test.YbulkdajuGen
import Derived.LaidEqlPtr
namespace Go.Proofs.Ybulkdaju
open Go.RowKit Go.Sort
theorem ptr_same (t e : TypeId) (hp : Yba.prog.underlying t = some (.pointer e)) (he : (Yba.prog.info? e).isSome = true) (a : Addr) (w : World) :
    (binOp .eql t (.pointer (some a)) (.pointer (some a))).run Yba.prog w = .ok (.bool true) w := by
  obtain ⟨j, hj⟩ := Option.isSome_iff_exists.1 he
  exact run_eql_ptr_same w a hp hj
theorem eq25 (a : Addr) (w : World) : (binOp .eql 25 (.pointer (some a)) (.pointer (some a))).run Yba.prog w = .ok (.bool true) w := ptr_same 25 40 Yba.underlying25 (by kernel_rfl) a w
theorem eq54 (a : Addr) (w : World) : (binOp .eql 54 (.pointer (some a)) (.pointer (some a))).run Yba.prog w = .ok (.bool true) w := ptr_same 54 32 Yba.underlying54 (by kernel_rfl) a w
theorem eq22 (w : World) : (binOp .eql 22 (.slice none 0 0) (.slice none 0 0)).run Yba.prog w = .ok (.bool true) w := by kernel_rfl

theorem neq22 (w : World) : (binOp .neq 22 (.slice none 0 0) (.slice none 0 0)).run Yba.prog w = .ok (.bool false) w := by kernel_rfl
theorem batchOf_out (p0 p1 p2 : Value) (k : Nat) (es : List Int) (ix : Nat) (hl : es.length ≤ 2) (h : ix < 4 ∨ 6 ≤ ix) : (batchOf p0 p1 p2 k es)[ix]? = (batch p0 p1 p2 k 0 0 0 0 (.slice none 0 0))[ix]? := by
  unfold batchOf
  rw [putInts_get es _ 4 ix (by simp [batch]; omega), if_neg (by omega)]
set_option maxRecDepth 100000 in
set_option maxHeartbeats 1600000 in
theorem agree_some (m1 m2 j k1 key bk : Int) (colFew : Bool) (a : Option Addr) (n cap : Nat) (F : Nat → Int) (w : World) (hm : U64 m1) (hjJ : 1 ≤ j ∧ j ≤ 18446744073709551615) (hk1 : 0 ≤ k1 ∧ k1 ≤ 255) (hkey : U64 key) (hbk : U64 bk) (hn : n ≤ 4096) (hC : CameB w a n cap F) :
    Calls Yba.prog 7 #[.int .u64 m1, .int .u64 m2, .int .u64 j, .int .u8 k1, .int .u64 key, .int .u64 bk, .bool colFew, .slice a n cap] w fun e w' => e = .returned (.bool true) ∧ Below w.heap.size w w' := by
  have HC := hid hC
  obtain ⟨k, hk⟩ : ∃ k : Nat, 1 + k1 % 2 = (k : Int) := ⟨(1 + k1 % 2).toNat, by omega⟩
  have hk12 : k = 1 ∨ k = 2 := by omega
  have hkl : 1 ≤ k ∧ k ≤ 2 := by omega
  have hj0 : (j == 0) = false := by simp; omega
  clear hC
  go_enter Yba.func7, Yba.ntmps7
  go_wp2_with fail
  have hcell := fun ix => cell_of_row (w.alloc (.cells #[.int .i64 3, .int .u64 m1, .int .u64 m2, .int .u64 k, .int .u64 1, .int .u64 j, .int .u64 0, .int .u64 0, .int .u64 key, .int .u64 0, .int .u64 bk, .slice none 0 0, .int .u64 key, .int .u64 k, .int .u64 (IntKind.u64.wrap (m1 - k)), .int .u64 m2, .bool false, .int .u64 0, .int .u64 1, .int .u64 (IntKind.u64.wrap (m2 - 1)), .int .u64 1, .bool colFew, .bool false, .pointer none, .int .u64 0, .pointer none, .int .u64 0, .nilFunc] 40)) w.heap.size ix #[.int .i64 3, .int .u64 m1, .int .u64 m2, .int .u64 k, .int .u64 1, .int .u64 j, .int .u64 0, .int .u64 0, .int .u64 key, .int .u64 0, .int .u64 bk, .slice none 0 0, .int .u64 key, .int .u64 k, .int .u64 (IntKind.u64.wrap (m1 - k)), .int .u64 m2, .bool false, .int .u64 0, .int .u64 1, .int .u64 (IntKind.u64.wrap (m2 - 1)), .int .u64 1, .bool colFew, .bool false, .pointer none, .int .u64 0, .pointer none, .int .u64 0, .nilFunc] 40 (0, 0) (heap_alloc_new w _)
  have q0 := hcell 0
  have q1 := hcell 1
  have q2 := hcell 2
  have q3 := hcell 3
  have q4 := hcell 4
  have q5 := hcell 5
  have q8 := hcell 8
  have q10 := hcell 10
  have q16 := hcell 16
  have q21 := hcell 21
  clear hcell
  have hb1 : Below w.heap.size w (w.alloc (.cells #[.int .i64 3, .int .u64 m1, .int .u64 m2, .int .u64 k, .int .u64 1, .int .u64 j, .int .u64 0, .int .u64 0, .int .u64 key, .int .u64 0, .int .u64 bk, .slice none 0 0, .int .u64 key, .int .u64 k, .int .u64 (IntKind.u64.wrap (m1 - k)), .int .u64 m2, .bool false, .int .u64 0, .int .u64 1, .int .u64 (IntKind.u64.wrap (m2 - 1)), .int .u64 1, .bool colFew, .bool false, .pointer none, .int .u64 0, .pointer none, .int .u64 0, .nilFunc] 40)) := (Below.refl _ _).alloc (Nat.le_refl _) _
  have hs1 : (w.alloc (.cells #[.int .i64 3, .int .u64 m1, .int .u64 m2, .int .u64 k, .int .u64 1, .int .u64 j, .int .u64 0, .int .u64 0, .int .u64 key, .int .u64 0, .int .u64 bk, .slice none 0 0, .int .u64 key, .int .u64 k, .int .u64 (IntKind.u64.wrap (m1 - k)), .int .u64 m2, .bool false, .int .u64 0, .int .u64 1, .int .u64 (IntKind.u64.wrap (m2 - 1)), .int .u64 1, .bool colFew, .bool false, .pointer none, .int .u64 0, .pointer none, .int .u64 0, .nilFunc] 40)).heap.size = w.heap.size + 1 := by simp
  generalize w.alloc _ = W at *
  simp at q0 q1 q2 q3 q4 q5 q8 q10 q16 q21
  have HFc : Hid (FiltC W w.heap.size m1 m2 1 j key bk k) := ⟨q0, q1, q2, q3, q4, q5, q8, q10⟩
  have H16 := hid q16
  have H21 := hid q21
  clear q0 q1 q2 q3 q4 q5 q8 q10 q16 q21
  have HR := hid (rows_all w.heap.size m1 m2 1 j key bk a n cap F none 0 k _ _ W hk12 HFc.out.f0 HFc.out.f1 HFc.out.f2 HFc.out.f3 HFc.out.f4 HFc.out.f5 HFc.out.f8 HFc.out.f10 hm hjJ hkey hbk hn (HC.out.later hb1)
    (dst_nil w.heap.size W.heap.size a n k hk12 (by omega) (fun hpos b off e => by
      obtain ⟨b', off', e', hBy⟩ := HC.out.2.2 hpos
      have hb' := World.block_lt_of_cell? w ⟨b', off' + 0, none⟩ (hBy.1 0 hpos)
      rw [e'] at e
      cases e
      exact Nat.lt_of_lt_of_le hb' hb1.size)) (Nat.le_refl _))
  refine HR.out.mono ?_
  rintro e w2 ⟨B, o, G, cur, ty, rfl, hd, hSB⟩
  have hb2 : Below W.heap.size W w2 := ⟨hd.gr.os, hd.gr.tape, hd.gr.output, hd.gr.size, fun i hi => hd.gr.block i hi (by simp; omega)⟩
  have hlt : w.heap.size < W.heap.size := by omega
  have hc2 : ∀ ix v, W.cell? ⟨w.heap.size, ix, none⟩ = some v → w2.cell? ⟨w.heap.size, ix, none⟩ = some v := fun ix v h => (hb2.cell (p := ⟨w.heap.size, ix, none⟩) hlt).trans h
  have hbw2 : Below w.heap.size w w2 := hb1.trans (hb2.mono (by omega))
  have HBK := hid (byKey_gen w.heap.size m1 m2 1 j key bk k colFew a n cap F w2 hk12 ⟨hc2 _ _ HFc.out.f0, hc2 _ _ HFc.out.f1, hc2 _ _ HFc.out.f2, hc2 _ _ HFc.out.f3, hc2 _ _ HFc.out.f4, hc2 _ _ HFc.out.f5, hc2 _ _ HFc.out.f8, hc2 _ _ HFc.out.f10⟩ hm hjJ hkey hbk (hc2 _ _ H16.out) (hc2 _ _ H21.out) hn (HC.out.later hbw2))
  have hrl := rowsF_len key bk m1 j F n k hk12
  generalize rowsF key bk m1 j F n k = ds at *
  clear HFc H16 H21 HR hc2 hb1 hs1 hb2 HC
  go_wp2_with fail
  refine HBK.out.mono ?_
  rintro e w3 ⟨rfl, hb3, hbat⟩
  clear HBK
  have hBlt := lt_of_block hd.row
  have hrow3 : w3.heap[B]? = some (.cells (putInts cur o ds) ty (0, 0)) := (hb3.block _ hBlt).trans hd.row
  have HW := hid (fun (t : Nat) (ht : t < k) => cellPut hrow3 hd.fit t (by omega))
  have hbw3 : Below w.heap.size w w3 := hbw2.trans (hb3.mono hbw2.size)
  have hGm := hd.Gm
  have hkG := hd.kG
  obtain ⟨es, hes⟩ : ∃ es, (if colFew then ds.map (fun d => IntKind.u64.wrap (d * m2)) else ds) = es := ⟨_, rfl⟩
  have hel : es.length = k := by rw [← hes]; split <;> simp [hrl]
  rw [hes] at hbat
  have hsame := fun ix (h : ix < 4 ∨ 6 ≤ ix) => batchOf_out (.pointer (some ⟨w.heap.size, 0, none⟩)) (.pointer (some ⟨w.heap.size, 17, none⟩)) (.bool true) k es ix (by omega) h
  have hbc := fun ix => cell_of_row w3 w2.heap.size ix _ 63 (0, 0) hbat
  have k0 := (hbc 0).trans (hsame 0 (by omega))
  have k1' := (hbc 1).trans (hsame 1 (by omega))
  have k2 := (hbc 2).trans (hsame 2 (by omega))
  have k3 := (hbc 3).trans (hsame 3 (by omega))
  have k8 := (hbc 8).trans (hsame 8 (by omega))
  simp [batch] at k0 k1' k2 k3 k8
  have HE := hid (fun (t : Nat) (ht : t < k) => cellPut (ds := es) hbat (by simp [batch]; omega) t (by omega))
  clear hsame hbc hbat hrow3 hd hb3 hbw2
  have HES := hid hes
  clear hes
  have e22 := neq22
  have e25 := eq25
  have e54 := eq54
  have hkk : (1 : Int) ≤ (k : Int) ∧ (k : Int) ≤ 2 := by omega
  cases colFew with
  | false =>
    go_wp2_with fail
    go_loop [21] (fun x => ∃ t : Nat, t ≤ k ∧ x = .int .i64 t) (fun x => k - (intOf x).toNat)
    case atStart => exact ⟨0, Nat.zero_le _, rfl⟩
    case round =>
      obtain ⟨t, ht, rfl⟩ := hrel
      by_cases htk : t < k
      · have c1 := HW.out t htk
        have c2 := HE.out t htk
        have hE : es.getD t 0 = ds.getD t 0 := by rw [← HES.out]; rfl
        rw [hE] at c2
        generalize ds.getD t 0 = d at *
        have ht4 : (t : Int) < 4 := by omega
        go_wp2
        go_round
        case rel => exact ⟨t + 1, by omega, by go_num⟩
        case measure => simp [intOf]; omega
      · go_wp2
        go_quiet (fail)
        go_wp2
        go_ret
        exact ⟨rfl, below_drewN hbw3 nq⟩
  | true =>
    go_wp2_with fail
    go_loop [21] (fun x => ∃ t : Nat, t ≤ k ∧ x = .int .i64 t) (fun x => k - (intOf x).toNat)
    case atStart => exact ⟨0, Nat.zero_le _, rfl⟩
    case round =>
      obtain ⟨t, ht, rfl⟩ := hrel
      by_cases htk : t < k
      · have c1 := HW.out t htk
        have c2 := HE.out t htk
        have hE : es.getD t 0 = IntKind.u64.wrap (ds.getD t 0 * m2) := by
          rw [← HES.out]
          show (ds.map _).getD t 0 = _
          rw [List.getD_eq_getElem?_getD, List.getD_eq_getElem?_getD, List.getElem?_map, List.getElem?_eq_getElem (by omega)]
          rfl
        rw [hE] at c2
        generalize ds.getD t 0 = d at *
        have ht4 : (t : Int) < 4 := by omega
        go_wp2
        go_round
        case rel => exact ⟨t + 1, by omega, by go_num⟩
        case measure => simp [intOf]; omega
      · go_wp2
        go_quiet (fail)
        go_wp2
        go_ret
        exact ⟨rfl, below_drewN hbw3 nq⟩
set_option maxRecDepth 100000 in
set_option maxHeartbeats 1600000 in
theorem agree_zero (m1 m2 k1 key bk : Int) (colFew : Bool) (a : Option Addr) (n cap : Nat) (F : Nat → Int) (w : World) (hm : U64 m1) (hk1 : 0 ≤ k1 ∧ k1 ≤ 255) (hkey : U64 key) (hbk : U64 bk) (hn : n ≤ 4096) (hC : CameB w a n cap F) :
    Calls Yba.prog 7 #[.int .u64 m1, .int .u64 m2, .int .u64 0, .int .u8 k1, .int .u64 key, .int .u64 bk, .bool colFew, .slice a n cap] w fun e w' => e = .returned (.bool true) ∧ Below w.heap.size w w' := by
  have HC := hid hC
  obtain ⟨k, hk⟩ : ∃ k : Nat, 1 + k1 % 2 = (k : Int) := ⟨(1 + k1 % 2).toNat, by omega⟩
  have hk12 : k = 1 ∨ k = 2 := by omega
  have hkl : 1 ≤ k ∧ k ≤ 2 := by omega
  have hjJ : (1 : Int) ≤ 1 ∧ (1 : Int) ≤ 18446744073709551615 := by omega
  clear hC
  go_enter Yba.func7, Yba.ntmps7
  go_wp2_with fail
  have hcell := fun ix => cell_of_row (w.alloc (.cells #[.int .i64 3, .int .u64 m1, .int .u64 m2, .int .u64 k, .int .u64 1, .int .u64 1, .int .u64 0, .int .u64 0, .int .u64 key, .int .u64 0, .int .u64 bk, .slice none 0 0, .int .u64 key, .int .u64 k, .int .u64 (IntKind.u64.wrap (m1 - k)), .int .u64 m2, .bool false, .int .u64 0, .int .u64 1, .int .u64 (IntKind.u64.wrap (m2 - 1)), .int .u64 1, .bool colFew, .bool false, .pointer none, .int .u64 0, .pointer none, .int .u64 0, .nilFunc] 40)) w.heap.size ix #[.int .i64 3, .int .u64 m1, .int .u64 m2, .int .u64 k, .int .u64 1, .int .u64 1, .int .u64 0, .int .u64 0, .int .u64 key, .int .u64 0, .int .u64 bk, .slice none 0 0, .int .u64 key, .int .u64 k, .int .u64 (IntKind.u64.wrap (m1 - k)), .int .u64 m2, .bool false, .int .u64 0, .int .u64 1, .int .u64 (IntKind.u64.wrap (m2 - 1)), .int .u64 1, .bool colFew, .bool false, .pointer none, .int .u64 0, .pointer none, .int .u64 0, .nilFunc] 40 (0, 0) (heap_alloc_new w _)
  have q0 := hcell 0
  have q1 := hcell 1
  have q2 := hcell 2
  have q3 := hcell 3
  have q4 := hcell 4
  have q5 := hcell 5
  have q8 := hcell 8
  have q10 := hcell 10
  have q16 := hcell 16
  have q21 := hcell 21
  clear hcell
  have hb1 : Below w.heap.size w (w.alloc (.cells #[.int .i64 3, .int .u64 m1, .int .u64 m2, .int .u64 k, .int .u64 1, .int .u64 1, .int .u64 0, .int .u64 0, .int .u64 key, .int .u64 0, .int .u64 bk, .slice none 0 0, .int .u64 key, .int .u64 k, .int .u64 (IntKind.u64.wrap (m1 - k)), .int .u64 m2, .bool false, .int .u64 0, .int .u64 1, .int .u64 (IntKind.u64.wrap (m2 - 1)), .int .u64 1, .bool colFew, .bool false, .pointer none, .int .u64 0, .pointer none, .int .u64 0, .nilFunc] 40)) := (Below.refl _ _).alloc (Nat.le_refl _) _
  have hs1 : (w.alloc (.cells #[.int .i64 3, .int .u64 m1, .int .u64 m2, .int .u64 k, .int .u64 1, .int .u64 1, .int .u64 0, .int .u64 0, .int .u64 key, .int .u64 0, .int .u64 bk, .slice none 0 0, .int .u64 key, .int .u64 k, .int .u64 (IntKind.u64.wrap (m1 - k)), .int .u64 m2, .bool false, .int .u64 0, .int .u64 1, .int .u64 (IntKind.u64.wrap (m2 - 1)), .int .u64 1, .bool colFew, .bool false, .pointer none, .int .u64 0, .pointer none, .int .u64 0, .nilFunc] 40)).heap.size = w.heap.size + 1 := by simp
  generalize w.alloc _ = W at *
  simp at q0 q1 q2 q3 q4 q5 q8 q10 q16 q21
  have HFc : Hid (FiltC W w.heap.size m1 m2 1 1 key bk k) := ⟨q0, q1, q2, q3, q4, q5, q8, q10⟩
  have H16 := hid q16
  have H21 := hid q21
  clear q0 q1 q2 q3 q4 q5 q8 q10 q16 q21
  have HR := hid (rows_all w.heap.size m1 m2 1 1 key bk a n cap F none 0 k _ _ W hk12 HFc.out.f0 HFc.out.f1 HFc.out.f2 HFc.out.f3 HFc.out.f4 HFc.out.f5 HFc.out.f8 HFc.out.f10 hm hjJ hkey hbk hn (HC.out.later hb1)
    (dst_nil w.heap.size W.heap.size a n k hk12 (by omega) (fun hpos b off e => by
      obtain ⟨b', off', e', hBy⟩ := HC.out.2.2 hpos
      have hb' := World.block_lt_of_cell? w ⟨b', off' + 0, none⟩ (hBy.1 0 hpos)
      rw [e'] at e
      cases e
      exact Nat.lt_of_lt_of_le hb' hb1.size)) (Nat.le_refl _))
  refine HR.out.mono ?_
  rintro e w2 ⟨B, o, G, cur, ty, rfl, hd, hSB⟩
  have hb2 : Below W.heap.size W w2 := ⟨hd.gr.os, hd.gr.tape, hd.gr.output, hd.gr.size, fun i hi => hd.gr.block i hi (by simp; omega)⟩
  have hlt : w.heap.size < W.heap.size := by omega
  have hc2 : ∀ ix v, W.cell? ⟨w.heap.size, ix, none⟩ = some v → w2.cell? ⟨w.heap.size, ix, none⟩ = some v := fun ix v h => (hb2.cell (p := ⟨w.heap.size, ix, none⟩) hlt).trans h
  have hbw2 : Below w.heap.size w w2 := hb1.trans (hb2.mono (by omega))
  have HBK := hid (byKey_gen w.heap.size m1 m2 1 1 key bk k colFew a n cap F w2 hk12 ⟨hc2 _ _ HFc.out.f0, hc2 _ _ HFc.out.f1, hc2 _ _ HFc.out.f2, hc2 _ _ HFc.out.f3, hc2 _ _ HFc.out.f4, hc2 _ _ HFc.out.f5, hc2 _ _ HFc.out.f8, hc2 _ _ HFc.out.f10⟩ hm hjJ hkey hbk (hc2 _ _ H16.out) (hc2 _ _ H21.out) hn (HC.out.later hbw2))
  have hrl := rowsF_len key bk m1 1 F n k hk12
  generalize rowsF key bk m1 1 F n k = ds at *
  clear HFc H16 H21 HR hc2 hb1 hs1 hb2 HC
  go_wp2_with fail
  refine HBK.out.mono ?_
  rintro e w3 ⟨rfl, hb3, hbat⟩
  clear HBK
  have hBlt := lt_of_block hd.row
  have hrow3 : w3.heap[B]? = some (.cells (putInts cur o ds) ty (0, 0)) := (hb3.block _ hBlt).trans hd.row
  have HW := hid (fun (t : Nat) (ht : t < k) => cellPut hrow3 hd.fit t (by omega))
  have hbw3 : Below w.heap.size w w3 := hbw2.trans (hb3.mono hbw2.size)
  have hGm := hd.Gm
  have hkG := hd.kG
  obtain ⟨es, hes⟩ : ∃ es, (if colFew then ds.map (fun d => IntKind.u64.wrap (d * m2)) else ds) = es := ⟨_, rfl⟩
  have hel : es.length = k := by rw [← hes]; split <;> simp [hrl]
  rw [hes] at hbat
  have hsame := fun ix (h : ix < 4 ∨ 6 ≤ ix) => batchOf_out (.pointer (some ⟨w.heap.size, 0, none⟩)) (.pointer (some ⟨w.heap.size, 17, none⟩)) (.bool true) k es ix (by omega) h
  have hbc := fun ix => cell_of_row w3 w2.heap.size ix _ 63 (0, 0) hbat
  have k0 := (hbc 0).trans (hsame 0 (by omega))
  have k1' := (hbc 1).trans (hsame 1 (by omega))
  have k2 := (hbc 2).trans (hsame 2 (by omega))
  have k3 := (hbc 3).trans (hsame 3 (by omega))
  have k8 := (hbc 8).trans (hsame 8 (by omega))
  simp [batch] at k0 k1' k2 k3 k8
  have HE := hid (fun (t : Nat) (ht : t < k) => cellPut (ds := es) hbat (by simp [batch]; omega) t (by omega))
  clear hsame hbc hbat hrow3 hd hb3 hbw2
  have HES := hid hes
  clear hes
  have e22 := neq22
  have e25 := eq25
  have e54 := eq54
  have hkk : (1 : Int) ≤ (k : Int) ∧ (k : Int) ≤ 2 := by omega
  cases colFew with
  | false =>
    go_wp2_with fail
    go_loop [21] (fun x => ∃ t : Nat, t ≤ k ∧ x = .int .i64 t) (fun x => k - (intOf x).toNat)
    case atStart => exact ⟨0, Nat.zero_le _, rfl⟩
    case round =>
      obtain ⟨t, ht, rfl⟩ := hrel
      by_cases htk : t < k
      · have c1 := HW.out t htk
        have c2 := HE.out t htk
        have hE : es.getD t 0 = ds.getD t 0 := by rw [← HES.out]; rfl
        rw [hE] at c2
        generalize ds.getD t 0 = d at *
        have ht4 : (t : Int) < 4 := by omega
        go_wp2
        go_round
        case rel => exact ⟨t + 1, by omega, by go_num⟩
        case measure => simp [intOf]; omega
      · go_wp2
        go_quiet (fail)
        go_wp2
        go_ret
        exact ⟨rfl, below_drewN hbw3 nq⟩
  | true =>
    go_wp2_with fail
    go_loop [21] (fun x => ∃ t : Nat, t ≤ k ∧ x = .int .i64 t) (fun x => k - (intOf x).toNat)
    case atStart => exact ⟨0, Nat.zero_le _, rfl⟩
    case round =>
      obtain ⟨t, ht, rfl⟩ := hrel
      by_cases htk : t < k
      · have c1 := HW.out t htk
        have c2 := HE.out t htk
        have hE : es.getD t 0 = IntKind.u64.wrap (ds.getD t 0 * m2) := by
          rw [← HES.out]
          show (ds.map _).getD t 0 = _
          rw [List.getD_eq_getElem?_getD, List.getD_eq_getElem?_getD, List.getElem?_map, List.getElem?_eq_getElem (by omega)]
          rfl
        rw [hE] at c2
        generalize ds.getD t 0 = d at *
        have ht4 : (t : Int) < 4 := by omega
        go_wp2
        go_round
        case rel => exact ⟨t + 1, by omega, by go_num⟩
        case measure => simp [intOf]; omega
      · go_wp2
        go_quiet (fail)
        go_wp2
        go_ret
        exact ⟨rfl, below_drewN hbw3 nq⟩

set_option maxRecDepth 100000 in
set_option maxHeartbeats 400000 in
theorem agree_long (m1 m2 j k1 key bk : Int) (colFew : Bool) (a : Option Addr) (n cap : Nat) (w : World) (hn : 4096 < n) (hn' : n ≤ maxLen) :
    Calls Yba.prog 7 #[.int .u64 m1, .int .u64 m2, .int .u64 j, .int .u8 k1, .int .u64 key, .int .u64 bk, .bool colFew, .slice a n cap] w fun e w' => e = .returned (.bool true) ∧ Below w.heap.size w w' := by
  unfold maxLen at hn'
  go_enter Yba.func7, Yba.ntmps7
  go_wp2
  go_ret
  exact ⟨rfl, Below.refl _ _⟩
theorem agree_walk (m1 m2 j k1 key bk : Int) (colFew : Bool) (a : Option Addr) (n cap : Nat) (F : Nat → Int) (w : World) (hm : U64 m1) (hj : U64 j) (hk1 : 0 ≤ k1 ∧ k1 ≤ 255) (hkey : U64 key) (hbk : U64 bk) (hn : n ≤ 4096) (hC : CameB w a n cap F) :
    Calls Yba.prog 7 #[.int .u64 m1, .int .u64 m2, .int .u64 j, .int .u8 k1, .int .u64 key, .int .u64 bk, .bool colFew, .slice a n cap] w fun e w' => e = .returned (.bool true) ∧ Below w.heap.size w w' := by
  by_cases h0 : j = 0
  · subst h0
    exact agree_zero m1 m2 k1 key bk colFew a n cap F w hm hk1 hkey hbk hn hC
  · exact agree_some m1 m2 j k1 key bk colFew a n cap F w hm ⟨by have := hj.1; omega, hj.2⟩ hk1 hkey hbk hn hC
#print axioms agree_walk
end Go.Proofs.Ybulkdaju
