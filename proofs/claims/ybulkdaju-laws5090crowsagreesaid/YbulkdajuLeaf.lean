/-
  Readers of bytes, and fold: the leaves under 'sum'.
-/
import Derived.Test.YbulkdajuMul
import Derived.Deep.QuietTactic
import Derived.BigQuiet
import Derived.RegionTactic
import Derived.LoopTactic
import Derived.Deep.LoopGhost
import Derived.Lib.QuietBelow
import Derived.OpenShut
namespace Go.Proofs.Ybulkdaju
open Go.RowKit
/-- What Uint64 makes of eight bytes; Uint32 of four. -/
def le8 (v0 v1 v2 v3 v4 v5 v6 v7 : Int) : Int :=
  bits .or .u64 (bits .or .u64 (bits .or .u64 (bits .or .u64 (bits .or .u64 (bits .or .u64 (bits .or .u64 v0 (v1 * 256)) (v2 * 65536)) (v3 * 16777216)) (v4 * 4294967296)) (v5 * 1099511627776)) (v6 * 281474976710656)) (v7 * 72057594037927936)
def le4 (v0 v1 v2 v3 : Int) : Int := bits .or .u32 (bits .or .u32 (bits .or .u32 v0 (v1 * 256)) (v2 * 65536)) (v3 * 16777216)
theorem bits_bd (op : BinOp) (a b : Int) : 0 ≤ bits op .u64 a b ∧ bits op .u64 a b ≤ 18446744073709551615 := bounds_u64 (wf_bits op .u64 a b)
theorem bits_bd32 (op : BinOp) (a b : Int) : 0 ≤ bits op .u32 a b ∧ bits op .u32 a b ≤ 4294967295 := bounds_u32 (wf_bits op .u32 a b)
set_option maxHeartbeats 400000 in
theorem uint64_any (b o n c : Nat) (f : Nat → Int) (w : World) (hn : 8 ≤ n) (hc : ∀ i, i < 8 → w.cell? ⟨b, o + i, none⟩ = some (.int .u8 (f i))) (hb : ∀ i, i < 8 → 0 ≤ f i ∧ f i ≤ 255) :
    Calls Yba.prog 21 #[.agg #[], .slice (some ⟨b, o, none⟩) n c] w fun e w' => e = .returned (.int .u64 (le8 (f 0) (f 1) (f 2) (f 3) (f 4) (f 5) (f 6) (f 7))) ∧ Below w.heap.size w w' := by
  have hlt : b < w.heap.size := World.block_lt_of_cell? w ⟨b, o + 0, none⟩ (hc 0 (by omega))
  have hca : ∀ i, i < 8 → ∀ o1, (w.alloc o1).cell? ⟨b, o + i, none⟩ = some (.int .u8 (f i)) := fun i hi o1 => (((Below.refl w.heap.size w).alloc (Nat.le_refl _) o1).cell (p := ⟨b, o + i, none⟩) hlt).trans (hc i hi)
  have c0 := hca 0 (by omega)
  have c1 := hca 1 (by omega)
  have c2 := hca 2 (by omega)
  have c3 := hca 3 (by omega)
  have c4 := hca 4 (by omega)
  have c5 := hca 5 (by omega)
  have c6 := hca 6 (by omega)
  have c7 := hca 7 (by omega)
  have b0 := hb 0 (by omega)
  have b1 := hb 1 (by omega)
  have b2 := hb 2 (by omega)
  have b3 := hb 3 (by omega)
  have b4 := hb 4 (by omega)
  have b5 := hb 5 (by omega)
  have b6 := hb 6 (by omega)
  have b7 := hb 7 (by omega)
  clear hc hb hca
  simp only [Nat.add_zero] at c0
  generalize f 0 = v0 at *
  generalize f 1 = v1 at *
  generalize f 2 = v2 at *
  generalize f 3 = v3 at *
  generalize f 4 = v4 at *
  generalize f 5 = v5 at *
  generalize f 6 = v6 at *
  generalize f 7 = v7 at *
  have q0 : 0 < n := by omega
  have q1 : (1 : Int) < (n : Int) := by omega
  have q2 : (2 : Int) < (n : Int) := by omega
  have q3 : (3 : Int) < (n : Int) := by omega
  have q4 : (4 : Int) < (n : Int) := by omega
  have q5 : (5 : Int) < (n : Int) := by omega
  have q6 : (6 : Int) < (n : Int) := by omega
  have q7 : (7 : Int) < (n : Int) := by omega
  go_enter Yba.func21, Yba.ntmps21
  go_wp2
  go_quiet (fail)
  go_wp2
  go_ret
  exact ⟨rfl, below_drewN ((Below.refl _ _).alloc (Nat.le_refl _) _) nq⟩

set_option maxHeartbeats 400000 in
theorem uint32_any (b o n c : Nat) (f : Nat → Int) (w : World) (hn : 4 ≤ n) (hc : ∀ i, i < 4 → w.cell? ⟨b, o + i, none⟩ = some (.int .u8 (f i))) (hb : ∀ i, i < 4 → 0 ≤ f i ∧ f i ≤ 255) :
    Calls Yba.prog 22 #[.agg #[], .slice (some ⟨b, o, none⟩) n c] w fun e w' => e = .returned (.int .u32 (le4 (f 0) (f 1) (f 2) (f 3))) ∧ Below w.heap.size w w' := by
  have hlt : b < w.heap.size := World.block_lt_of_cell? w ⟨b, o + 0, none⟩ (hc 0 (by omega))
  have hca : ∀ i, i < 4 → ∀ o1, (w.alloc o1).cell? ⟨b, o + i, none⟩ = some (.int .u8 (f i)) := fun i hi o1 => (((Below.refl w.heap.size w).alloc (Nat.le_refl _) o1).cell (p := ⟨b, o + i, none⟩) hlt).trans (hc i hi)
  have c0 := hca 0 (by omega)
  have c1 := hca 1 (by omega)
  have c2 := hca 2 (by omega)
  have c3 := hca 3 (by omega)
  have b0 := hb 0 (by omega)
  have b1 := hb 1 (by omega)
  have b2 := hb 2 (by omega)
  have b3 := hb 3 (by omega)
  clear hc hb hca
  simp only [Nat.add_zero] at c0
  generalize f 0 = v0 at *
  generalize f 1 = v1 at *
  generalize f 2 = v2 at *
  generalize f 3 = v3 at *
  have q0 : 0 < n := by omega
  have q1 : (1 : Int) < (n : Int) := by omega
  have q2 : (2 : Int) < (n : Int) := by omega
  have q3 : (3 : Int) < (n : Int) := by omega
  go_enter Yba.func22, Yba.ntmps22
  go_wp2
  go_quiet (fail)
  go_wp2
  go_ret
  exact ⟨rfl, below_drewN ((Below.refl _ _).alloc (Nat.le_refl _) _) nq⟩

set_option maxHeartbeats 400000 in
theorem fold_any (x y : Int) (hx : 0 ≤ x) (hx' : x ≤ 18446744073709551615) (hy : 0 ≤ y) (hy' : y ≤ 18446744073709551615) (w : World) :
    Calls Yba.prog 20 #[.int .u64 x, .int .u64 y] w fun e w' => e = .returned (.int .u64 (bits .xor .u64 (hi64 x y) (lo64 x y))) ∧ w = w' := by
  go_enter Yba.func20, Yba.ntmps20
  go_wp2_with (go_at_call 11; refine (mul64_any _ _ hx hx' hy hy' _).mono ?_; rintro e w' ⟨rfl, rfl⟩)
  go_ret
  exact ⟨rfl, rfl⟩
#print axioms uint64_any
end Go.Proofs.Ybulkdaju
