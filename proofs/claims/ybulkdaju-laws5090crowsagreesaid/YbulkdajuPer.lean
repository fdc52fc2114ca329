import Derived.Test.YbulkdajuBase
namespace Go.Proofs.Ybulkdaju
open Go.RowKit
/-- The table 'len8tab'. -/
def len8 : ByteArray := ⟨#[0, 1, 2, 2, 3, 3, 3, 3, 4, 4, 4, 4, 4, 4, 4, 4, 5, 5, 5, 5, 5, 5, 5, 5, 5, 5, 5, 5, 5, 5, 5, 5, 6, 6, 6, 6, 6, 6, 6, 6, 6, 6, 6, 6, 6, 6, 6, 6, 6, 6, 6, 6, 6, 6, 6, 6, 6, 6, 6, 6, 6, 6, 6, 6, 7, 7, 7, 7, 7, 7, 7, 7, 7, 7, 7, 7, 7, 7, 7, 7, 7, 7, 7, 7, 7, 7, 7, 7, 7, 7, 7, 7, 7, 7, 7, 7, 7, 7, 7, 7, 7, 7, 7, 7, 7, 7, 7, 7, 7, 7, 7, 7, 7, 7, 7, 7, 7, 7, 7, 7, 7, 7, 7, 7, 7, 7, 7, 7, 8, 8, 8, 8, 8, 8, 8, 8, 8, 8, 8, 8, 8, 8, 8, 8, 8, 8, 8, 8, 8, 8, 8, 8, 8, 8, 8, 8, 8, 8, 8, 8, 8, 8, 8, 8, 8, 8, 8, 8, 8, 8, 8, 8, 8, 8, 8, 8, 8, 8, 8, 8, 8, 8, 8, 8, 8, 8, 8, 8, 8, 8, 8, 8, 8, 8, 8, 8, 8, 8, 8, 8, 8, 8, 8, 8, 8, 8, 8, 8, 8, 8, 8, 8, 8, 8, 8, 8, 8, 8, 8, 8, 8, 8, 8, 8, 8, 8, 8, 8, 8, 8, 8, 8, 8, 8, 8, 8, 8, 8, 8, 8, 8, 8, 8, 8, 8, 8, 8, 8, 8, 8, 8, 8, 8, 8, 8, 8]⟩
def len8At (n : Int) (i : Nat) : Int := wrap64 (n + wrap64 ((len8.data[i]?.getD 0).toNat : Int))
theorem len8_get (n : Int) (i : Nat) (h : i < len8.size) : wrap64 (n + wrap64 (len8[i].toNat : Int)) = len8At n i := by
  unfold len8At
  rw [show len8.data[i]? = some len8[i] from Array.getElem?_eq_getElem h]
  rfl
theorem len8_get0 (i : Nat) (h : i < len8.size) : wrap64 (wrap64 (len8[i].toNat : Int)) = len8At 0 i := by
  rw [← len8_get 0 i h, Int.zero_add]
def lenF (x : Int) : Int :=
  if 4294967296 ≤ x then
    (if 65536 ≤ x / 4294967296 then (if 256 ≤ x / 4294967296 / 65536 then len8At 56 (x / 4294967296 / 65536 / 256).toNat else len8At 48 (x / 4294967296 / 65536).toNat)
     else (if 256 ≤ x / 4294967296 then len8At 40 (x / 4294967296 / 256).toNat else len8At 32 (x / 4294967296).toNat))
  else
    (if 65536 ≤ x then (if 256 ≤ x / 65536 then len8At 24 (x / 65536 / 256).toNat else len8At 16 (x / 65536).toNat)
     else (if 256 ≤ x then len8At 8 (x / 256).toNat else len8At 0 (x).toNat))
theorem ret_int {k : IntKind} {a b : Int} (h : a = b) : Ending.returned (.int k a) = .returned (.int k b) := by rw [h]
set_option maxRecDepth 100000 in
set_option maxHeartbeats 400000 in
theorem len64_any (x : Int) (h0 : 0 ≤ x) (h1 : x ≤ 18446744073709551615) (w : World) : Calls Yba.prog 40 #[.int .u64 x] w fun e w' => e = .returned (.int .i64 (lenF x)) ∧ w = w' := by
  unfold lenF
  by_cases a : 4294967296 ≤ x
  · by_cases b : 65536 ≤ x / 4294967296
    · by_cases c : 256 ≤ x / 4294967296 / 65536
      · rw [if_pos a, if_pos b, if_pos c]
        go_enter Yba.func40, Yba.ntmps40
        go_wp2
        go_ret
        exact ⟨ret_int (len8_get 56 _ _), rfl⟩
      · rw [if_pos a, if_pos b, if_neg c]
        go_enter Yba.func40, Yba.ntmps40
        go_wp2
        go_ret
        exact ⟨ret_int (len8_get 48 _ _), rfl⟩
    · by_cases c : 256 ≤ x / 4294967296
      · rw [if_pos a, if_neg b, if_pos c]
        go_enter Yba.func40, Yba.ntmps40
        go_wp2
        go_ret
        exact ⟨ret_int (len8_get 40 _ _), rfl⟩
      · rw [if_pos a, if_neg b, if_neg c]
        go_enter Yba.func40, Yba.ntmps40
        go_wp2
        go_ret
        exact ⟨ret_int (len8_get 32 _ _), rfl⟩
  · by_cases b : 65536 ≤ x
    · by_cases c : 256 ≤ x / 65536
      · rw [if_neg a, if_pos b, if_pos c]
        go_enter Yba.func40, Yba.ntmps40
        go_wp2
        go_ret
        exact ⟨ret_int (len8_get 24 _ _), rfl⟩
      · rw [if_neg a, if_pos b, if_neg c]
        go_enter Yba.func40, Yba.ntmps40
        go_wp2
        go_ret
        exact ⟨ret_int (len8_get 16 _ _), rfl⟩
    · by_cases c : 256 ≤ x
      · rw [if_neg a, if_neg b, if_pos c]
        go_enter Yba.func40, Yba.ntmps40
        go_wp2
        go_ret
        exact ⟨ret_int (len8_get 8 _ _), rfl⟩
      · rw [if_neg a, if_neg b, if_neg c]
        go_enter Yba.func40, Yba.ntmps40
        go_wp2
        go_ret
        exact ⟨ret_int (len8_get0 _ _), rfl⟩

theorem wrap64_bd (x : Int) : -9223372036854775808 ≤ wrap64 x ∧ wrap64 x ≤ 9223372036854775807 := by unfold wrap64; omega
theorem lenF_bd (x : Int) : -9223372036854775808 ≤ lenF x ∧ lenF x ≤ 9223372036854775807 := by
  unfold lenF
  repeat' split
  all_goals exact wrap64_bd _
/-- What drawsPer answers. -/
def atLeast1 (x : Int) : Int := if x < 1 then 1 else x
theorem atLeast1_bd (x : Int) : 1 ≤ atLeast1 x := by unfold atLeast1; split <;> omega
def perF (m : Int) : Int := atLeast1 (48 / atLeast1 (lenF (IntKind.u64.wrap (m - 1))))
theorem perF_bd (m : Int) : 1 ≤ perF m ∧ perF m ≤ 48 := by
  refine ⟨atLeast1_bd _, ?_⟩
  unfold perF
  have h : 48 / atLeast1 (lenF (IntKind.u64.wrap (m - 1))) ≤ 48 := Int.ediv_le_self _ (by omega)
  generalize 48 / atLeast1 (lenF (IntKind.u64.wrap (m - 1))) = y at *
  unfold atLeast1
  split <;> omega
set_option maxRecDepth 100000 in
set_option maxHeartbeats 400000 in
theorem drawsPer_any (m : Int) (w : World) : Calls Yba.prog 35 #[.int .u64 m] w fun e w' => e = .returned (.int .u64 (perF m)) ∧ w = w' := by
  have hw : 0 ≤ IntKind.u64.wrap (m - 1) ∧ IntKind.u64.wrap (m - 1) ≤ 18446744073709551615 := by rw [IntKind.wrap_u64]; omega
  have hb := lenF_bd (IntKind.u64.wrap (m - 1))
  have HL := fun w => (show Hid (Calls Yba.prog 40 #[.int .u64 (IntKind.u64.wrap (m - 1))] w fun e w' => e = .returned (.int .i64 (lenF (IntKind.u64.wrap (m - 1)))) ∧ w = w') from len64_any _ hw.1 hw.2 w)
  have HP : Hid (perF m = atLeast1 (48 / atLeast1 (lenF (IntKind.u64.wrap (m - 1))))) := rfl
  obtain ⟨l, hl⟩ : ∃ l, lenF (IntKind.u64.wrap (m - 1)) = l := ⟨_, rfl⟩
  rw [hl] at HL hb HP
  clear hl
  have q1 := atLeast1_bd l
  have e1 : (if l < 1 then 1 else l) = atLeast1 l := rfl
  have q2 : atLeast1 l ≤ 9223372036854775807 := by unfold atLeast1; split <;> omega
  generalize atLeast1 l = q at *
  have e2 : (if 48 / q < 1 then 1 else 48 / q) = atLeast1 (48 / q) := rfl
  generalize atLeast1 (48 / q) = p at *
  go_enter Yba.func35, Yba.ntmps35
  go_wp2_with (go_at_call 40; refine (HL _).out.mono ?_; rintro e w' ⟨rfl, rfl⟩)
  go_ret
  exact ⟨ret_int HP.out.symm, rfl⟩
#print axioms drawsPer_any
end Go.Proofs.Ybulkdaju
