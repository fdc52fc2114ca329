/-
  'zzs5094cvar' (13), walked.
-/
import Derived.Test.YbulkdalyFmtRow
namespace Go.Proofs.YbulkdalyFmt
open Go.RowKit
/-- What zzs5094cvar answers. -/
def CvarAns (n i : Nat) (q : Option (Int × List Int)) (e : Ending) : Prop :=
  match q with
  | none => e = .returned (.tuple #[.int .u64 0, .int .i64 i, .bool false])
  | some (v, r) => e = .returned (.tuple #[.int .u64 v, .int .i64 ((n - r.length : Nat) : Int), .bool true])
set_option maxRecDepth 100000 in
set_option maxHeartbeats 800000 in
theorem cvar_any (a : Option Addr) (n c : Nat) (xs : List Int) (i : Nat) (w : World) (hV : View w a n c xs) (hi : i ≤ n) :
    Calls Ybaf.prog 13 #[.slice a n c, .int .i64 i] w fun e w' => CvarAns n i (varF (xs.drop i)) e ∧ w' = w := by
  obtain ⟨hl, hc, hc', hB, hV⟩ := hV
  by_cases hin : i = n
  · subst hin
    have hq : varF (xs.drop i) = none := by rw [List.drop_eq_nil_of_le (by omega)]; rfl
    rw [hq]
    clear hq hV hB hl hi
    go_enter Ybaf.func13, Ybaf.ntmps13
    go_wp2
    go_ret3
    exact ⟨rfl, rfl⟩
  · have hlt : i < n := by omega
    obtain ⟨b, off, rfl, hcell⟩ := hV (by omega)
    clear hV
    obtain ⟨f, hf⟩ : ∃ f, xs.getD i 0 = f := ⟨_, rfl⟩
    obtain ⟨r, hr⟩ : ∃ r, xs.drop (i + 1) = r := ⟨_, rfl⟩
    have hfb := hB.at (k := i) (by omega)
    have hc0 := hcell i hlt
    rw [hf] at hfb hc0
    have hd : xs.drop i = f :: r := by
      rw [List.drop_eq_getElem_cons (by omega), hr, ← hf, List.getD_eq_getElem?_getD, List.getElem?_eq_getElem (by omega)]; rfl
    have hq : varF (xs.drop i) = if wid f = 0 then some (f, r) else if r.length < wid f then none else some (be (r.take (wid f)), r.drop (wid f)) := by rw [hd]; rfl
    have hrl : r.length = n - i - 1 := by rw [← hr, List.length_drop]; omega
    have HB : Hid (Byt r) := by rw [← hr]; exact hB.drop _
    have HC : Hid (∀ j, j < r.length → w.cell? ⟨b, off + (i + 1 + j), none⟩ = some (.int .u8 (r.getD j 0))) := by
      intro j hj
      rw [hcell (i + 1 + j) (by omega), ← hr]
      simp [List.getD_eq_getElem?_getD, List.getElem?_drop]
    clear hcell hB hd hr hf hl
    by_cases h253 : f = 253
    · subst h253
      have hw : wid 253 = 2 := rfl
      rw [hw] at hq
      clear hw
      by_cases hs : r.length < 2
      · rw [if_neg (by omega), if_pos hs] at hq
        rw [hq]
        clear hq
        have hs' : (n : Int) - i - 1 < 2 := by omega
        go_enter Ybaf.func13, Ybaf.ntmps13
        go_wp2
        go_ret3
        exact ⟨rfl, rfl⟩
      · rw [if_neg (by omega), if_neg hs] at hq
        rw [hq]
        clear hq
        have hs' : ¬ (n : Int) - i - 1 < 2 := by omega
        have HR := hid hrl
        have HQ : Hid (∀ j, j < 2 → w.cell? ⟨b, off + (i + 1 + j), none⟩ = some (.int .u8 (r.getD j 0))) := fun j hj => HC.out j (by omega)
        clear hrl hs
        go_enter Ybaf.func13, Ybaf.ntmps13
        go_wp2
        go_loop [9, 10] (fun s t => ∃ (k : Nat) (v : Int), s = .int .u64 v ∧ t = .int .i64 k ∧ k ≤ 2 ∧ Hid (v = be (r.take k))) (fun _ t => 2 - (intOf t).toNat)
        case atStart => exact ⟨0, 0, rfl, rfl, Nat.zero_le _, rfl⟩
        case round =>
          obtain ⟨k, v, rfl, rfl, hk, hv⟩ := hrel
          by_cases hlt : k < 2
          · have hcl := HQ.out k hlt
            have hkr : k < r.length := by have := HR.out; omega
            have hx := HB.out.at hkr
            have hvb := be_bd7 r HB.out k (by omega) (by omega)
            rw [← hv.out] at hvb
            have HS := hid (be_take_succ r k hkr)
            generalize r.getD k 0 = x at *
            have hin : i + 1 + k < n := by have := HR.out; omega
            clear hkr
            go_wp2
            go_round
            case rel => exact ⟨k + 1, _, rfl, by go_num, by omega, by unfold Hid; rw [HS.out, ← hv.out]⟩
            case measure => simp [intOf]; omega
          · have hje : k = 2 := by omega
            subst hje
            have hx' := hv.out
            subst hx'
            go_wp2
            go_ret3
            refine ⟨?_, rfl⟩
            show _ = Ending.returned (.tuple #[.int .u64 (be (r.take 2)), .int .i64 ((n - (r.drop 2).length : Nat) : Int), .bool true])
            have e : ((n - (r.drop 2).length : Nat) : Int) = i + 1 + 2 := by have := HR.out; rw [List.length_drop]; omega
            rw [e]
            rfl
    by_cases h254 : f = 254
    · subst h254
      have hw : wid 254 = 4 := rfl
      rw [hw] at hq
      clear hw
      by_cases hs : r.length < 4
      · rw [if_neg (by omega), if_pos hs] at hq
        rw [hq]
        clear hq
        have hs' : (n : Int) - i - 1 < 4 := by omega
        go_enter Ybaf.func13, Ybaf.ntmps13
        go_wp2
        go_ret3
        exact ⟨rfl, rfl⟩
      · rw [if_neg (by omega), if_neg hs] at hq
        rw [hq]
        clear hq
        have hs' : ¬ (n : Int) - i - 1 < 4 := by omega
        have HR := hid hrl
        have HQ : Hid (∀ j, j < 4 → w.cell? ⟨b, off + (i + 1 + j), none⟩ = some (.int .u8 (r.getD j 0))) := fun j hj => HC.out j (by omega)
        clear hrl hs
        go_enter Ybaf.func13, Ybaf.ntmps13
        go_wp2
        go_loop [9, 10] (fun s t => ∃ (k : Nat) (v : Int), s = .int .u64 v ∧ t = .int .i64 k ∧ k ≤ 4 ∧ Hid (v = be (r.take k))) (fun _ t => 4 - (intOf t).toNat)
        case atStart => exact ⟨0, 0, rfl, rfl, Nat.zero_le _, rfl⟩
        case round =>
          obtain ⟨k, v, rfl, rfl, hk, hv⟩ := hrel
          by_cases hlt : k < 4
          · have hcl := HQ.out k hlt
            have hkr : k < r.length := by have := HR.out; omega
            have hx := HB.out.at hkr
            have hvb := be_bd7 r HB.out k (by omega) (by omega)
            rw [← hv.out] at hvb
            have HS := hid (be_take_succ r k hkr)
            generalize r.getD k 0 = x at *
            have hin : i + 1 + k < n := by have := HR.out; omega
            clear hkr
            go_wp2
            go_round
            case rel => exact ⟨k + 1, _, rfl, by go_num, by omega, by unfold Hid; rw [HS.out, ← hv.out]⟩
            case measure => simp [intOf]; omega
          · have hje : k = 4 := by omega
            subst hje
            have hx' := hv.out
            subst hx'
            go_wp2
            go_ret3
            refine ⟨?_, rfl⟩
            show _ = Ending.returned (.tuple #[.int .u64 (be (r.take 4)), .int .i64 ((n - (r.drop 4).length : Nat) : Int), .bool true])
            have e : ((n - (r.drop 4).length : Nat) : Int) = i + 1 + 4 := by have := HR.out; rw [List.length_drop]; omega
            rw [e]
            rfl
    by_cases h255 : f = 255
    · subst h255
      have hw : wid 255 = 8 := rfl
      rw [hw] at hq
      clear hw
      by_cases hs : r.length < 8
      · rw [if_neg (by omega), if_pos hs] at hq
        rw [hq]
        clear hq
        have hs' : (n : Int) - i - 1 < 8 := by omega
        go_enter Ybaf.func13, Ybaf.ntmps13
        go_wp2
        go_ret3
        exact ⟨rfl, rfl⟩
      · rw [if_neg (by omega), if_neg hs] at hq
        rw [hq]
        clear hq
        have hs' : ¬ (n : Int) - i - 1 < 8 := by omega
        have HR := hid hrl
        have HQ : Hid (∀ j, j < 8 → w.cell? ⟨b, off + (i + 1 + j), none⟩ = some (.int .u8 (r.getD j 0))) := fun j hj => HC.out j (by omega)
        clear hrl hs
        go_enter Ybaf.func13, Ybaf.ntmps13
        go_wp2
        go_loop [9, 10] (fun s t => ∃ (k : Nat) (v : Int), s = .int .u64 v ∧ t = .int .i64 k ∧ k ≤ 8 ∧ Hid (v = be (r.take k))) (fun _ t => 8 - (intOf t).toNat)
        case atStart => exact ⟨0, 0, rfl, rfl, Nat.zero_le _, rfl⟩
        case round =>
          obtain ⟨k, v, rfl, rfl, hk, hv⟩ := hrel
          by_cases hlt : k < 8
          · have hcl := HQ.out k hlt
            have hkr : k < r.length := by have := HR.out; omega
            have hx := HB.out.at hkr
            have hvb := be_bd7 r HB.out k (by omega) (by omega)
            rw [← hv.out] at hvb
            have HS := hid (be_take_succ r k hkr)
            generalize r.getD k 0 = x at *
            have hin : i + 1 + k < n := by have := HR.out; omega
            clear hkr
            go_wp2
            go_round
            case rel => exact ⟨k + 1, _, rfl, by go_num, by omega, by unfold Hid; rw [HS.out, ← hv.out]⟩
            case measure => simp [intOf]; omega
          · have hje : k = 8 := by omega
            subst hje
            have hx' := hv.out
            subst hx'
            go_wp2
            go_ret3
            refine ⟨?_, rfl⟩
            show _ = Ending.returned (.tuple #[.int .u64 (be (r.take 8)), .int .i64 ((n - (r.drop 8).length : Nat) : Int), .bool true])
            have e : ((n - (r.drop 8).length : Nat) : Int) = i + 1 + 8 := by have := HR.out; rw [List.length_drop]; omega
            rw [e]
            rfl
    have hw : wid f = 0 := by unfold wid; rw [if_neg h253, if_neg h254, if_neg h255]
    rw [hw, if_pos rfl] at hq
    rw [hq]
    clear hq hw
    have HR := hid hrl
    clear hrl
    go_enter Ybaf.func13, Ybaf.ntmps13
    go_wp2
    go_ret3
    refine ⟨?_, rfl⟩
    show _ = Ending.returned (.tuple #[.int .u64 f, .int .i64 ((n - r.length : Nat) : Int), .bool true])
    have e : ((n - r.length : Nat) : Int) = i + 1 := by have := HR.out; omega
    rw [e]
    rfl
#print axioms cvar_any
end Go.Proofs.YbulkdalyFmt
