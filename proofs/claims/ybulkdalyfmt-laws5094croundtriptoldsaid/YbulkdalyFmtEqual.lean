/-
  'bytes.Equal' (8), walked: two views of the same bytes.
-/
import Derived.Test.YbulkdalyFmtRow
import Derived.Laws.BytesArg
namespace Go.Proofs.YbulkdalyFmt
open Go.RowKit
theorem conv_view {w : World} {a : Option Addr} {n c : Nat} {xs : List Int} (h : View w a n c xs) : (convert 22 9 (.slice a n c)).run Ybaf.prog w = .ok (.string (strOfNums xs)) w := by
  obtain ⟨h1, h2, h3, h4, h5⟩ := h
  by_cases hn : 0 < n
  · obtain ⟨b, off, rfl, hc⟩ := h5 hn
    exact run_convert_bytes_arg w 22 5 Ybaf.underlying22 Ybaf.underlying5 b off n c xs h1.symm hc 9 Ybaf.underlying9
  · have e : n = 0 := by omega
    subst e
    have ex : xs = [] := List.eq_nil_of_length_eq_zero h1.symm
    subst ex
    cases a with
    | none => exact run_convert_bytes_nil w 22 5 Ybaf.underlying22 Ybaf.underlying5 0 c 9 Ybaf.underlying9
    | some p =>
      have hl : (loadCells p 0).run Ybaf.prog w = .ok (([] : List Int).map (Value.int .u8)).toArray w := by
        have := run_loadCells_list (P := Ybaf.prog) w p [] (fun j v hj => by simp at hj)
        simpa using this
      rw [run_convert_bytes_string w 22 9 5 _ 0 c Ybaf.underlying22 Ybaf.underlying5 Ybaf.underlying9, run_bytesToString w _ 0 c [] hl]
      rfl
set_option maxHeartbeats 400000 in
theorem equal_same (a1 a2 : Option Addr) (n1 c1 n2 c2 : Nat) (xs : List Int) (w : World) (h1 : View w a1 n1 c1 xs) (h2 : View w a2 n2 c2 xs) :
    Calls Ybaf.prog 8 #[.slice a1 n1 c1, .slice a2 n2 c2] w fun e w' => e = .returned (.bool true) ∧ w' = w := by
  have e1 := conv_view h1
  have e2 := conv_view h2
  clear h1 h2
  generalize strOfNums xs = s at *
  go_enter Ybaf.func8, Ybaf.ntmps8
  go_wp2
  go_ret
  exact ⟨rfl, rfl⟩
#print axioms equal_same
end Go.Proofs.YbulkdalyFmt
