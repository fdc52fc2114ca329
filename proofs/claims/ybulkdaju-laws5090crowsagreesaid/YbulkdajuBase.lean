/-
  Plain facts, and facts on one row of uint64 in memory. No walk.
-/
import Derived.Test.YbulkdajuRows
import Derived.WalkKit
import Derived.WalkSpells
import Derived.WalkLawsBesides
namespace Go.Proofs.Ybulkdaju
open Go.RowKit

/-- Block b of the world is a row of uint64 that holds just xs, none frozen. -/
def RowIs (w : World) (b : Nat) (xs : List Int) : Prop := w.heap[b]? = some (.cells (xs.map (Value.int .u64)).toArray 23 (0, 0))

theorem RowIs.cell {w : World} {b : Nat} {xs : List Int} (h : RowIs w b xs) (i : Nat) (hi : i < xs.length) : w.cell? ⟨b, i, none⟩ = some (.int .u64 (xs.getD i 0)) := by
  rw [cell_of_row w b i _ 23 (0, 0) h]
  simp [hi]

theorem RowIs.free {w : World} {b : Nat} {xs : List Int} (h : RowIs w b xs) (i : Nat) : w.frozen? ⟨b, i, none⟩ = false := frozen_of_row w b i _ 23 h

theorem RowIs.lt {w : World} {b : Nat} {xs : List Int} (h : RowIs w b xs) : b < w.heap.size := by
  unfold RowIs at h
  rcases Nat.lt_or_ge b w.heap.size with h' | h'
  · exact h'
  · rw [Array.getElem?_eq_none h'] at h; cases h

theorem RowIs.set {w : World} {b : Nat} {xs : List Int} (h : RowIs w b xs) (i : Nat) (v : Int) : RowIs (w.setCell ⟨b, i, none⟩ (.int .u64 v)) b (xs.set i v) := by
  unfold RowIs
  rw [heap_setCell_same w b i _ 23 _ h]
  congr 2
  apply Array.ext'
  simp [List.map_set]

theorem RowIs.other {w : World} {b : Nat} {xs : List Int} (h : RowIs w b xs) {a : Addr} (u : Value) (hne : b ≠ a.block) : RowIs (w.setCell a u) b xs := by
  unfold RowIs
  rw [heap_setCell_other w a b u hne]
  exact h

theorem RowIs.alloc {w : World} {b : Nat} {xs : List Int} (h : RowIs w b xs) (o : Obj) : RowIs (w.alloc o) b xs := by
  unfold RowIs
  rw [Below.heap_alloc w o b h.lt]
  exact h

theorem RowIs.drew {w : World} {b : Nat} {xs : List Int} (h : RowIs w b xs) : RowIs w.drew b xs := h

theorem RowIs.drewN {w : World} {b : Nat} {xs : List Int} (h : RowIs w b xs) (n : Nat) : RowIs (w.drewN n) b xs := h

theorem RowIs.below {B : Nat} {w w' : World} {b : Nat} {xs : List Int} (h : RowIs w b xs) (hb : Below B w w') (hlt : b < B) : RowIs w' b xs := by
  unfold RowIs
  rw [hb.block b hlt]
  exact h

theorem RowIs.new (w : World) (n : Nat) : RowIs (w.alloc (.cells (madeCells #[.int .u64 0] n) 23)) w.heap.size (List.replicate n 0) := by
  unfold RowIs
  rw [heap_alloc_new]
  congr 2
  apply Array.ext'
  rw [toList_madeCells_one]
  simp

/-! ### the low bit -/
theorem bvnat (a : Int) : ((BitVec.ofInt 64 a).toNat : Int) = a % 18446744073709551616 := by
  rw [BitVec.toNat_ofInt]
  omega
theorem and_nat (a b : Int) : bits .and .u64 a b = (((BitVec.ofInt 64 a).toNat &&& (BitVec.ofInt 64 b).toNat : Nat) : Int) := by
  show IntKind.u64.wrap ((BitVec.ofInt 64 a &&& BitVec.ofInt 64 b).toNat : Int) = _
  rw [BitVec.toNat_and, IntKind.wrap_u64]
  have hx : (BitVec.ofInt 64 a).toNat &&& (BitVec.ofInt 64 b).toNat < 2 ^ 64 := Nat.and_lt_two_pow _ (BitVec.isLt _)
  omega
theorem and_par (a b : Int) : bits .and .u64 a b % 2 = (a % 2) * (b % 2) := by
  rw [and_nat]
  have h := Nat.and_mod_two_pow (a := (BitVec.ofInt 64 a).toNat) (b := (BitVec.ofInt 64 b).toNat) (n := 1)
  have ha := bvnat a
  have hb := bvnat b
  have pa : (BitVec.ofInt 64 a).toNat % 2 = (a % 2).toNat := by omega
  have pb : (BitVec.ofInt 64 b).toNat % 2 = (b % 2).toNat := by omega
  rw [show (2:Nat)^1 = 2 from rfl, pa, pb] at h
  generalize (BitVec.ofInt 64 a).toNat &&& (BitVec.ofInt 64 b).toNat = x at h ⊢
  rcases Int.emod_two_eq a with e | e <;> rcases Int.emod_two_eq b with f | f <;> rw [e, f] at h ⊢ <;> simp at h ⊢ <;> omega
theorem and_one (a : Int) : bits .and .u64 a 1 = a % 2 := by
  rw [and_nat]
  have ha := bvnat a
  have h1 : (BitVec.ofInt 64 1).toNat = 1 := by decide
  rw [h1, Nat.and_one_is_mod]
  omega
def lowB (a : Int) : Bool := bits .and .u64 a 1 == 1
theorem lowB_and (a b : Int) : lowB (bits .and .u64 a b) = (lowB a && lowB b) := by
  unfold lowB
  rw [and_one, and_one, and_one, and_par]
  rcases Int.emod_two_eq a with e | e <;> rcases Int.emod_two_eq b with f | f <;> rw [e, f] <;> rfl
theorem lowB_zero (a : Int) : (bits .and .u64 a 1 == 0) = !lowB a := by
  unfold lowB
  rw [and_one]
  rcases Int.emod_two_eq a with e | e <;> rw [e] <;> rfl

/-- Bit i of the matrix xs. -/
def bitT (xs : List Int) (i : Int) : Bool := bits .and .u64 (xs[(i / 64).toNat]?.getD 0 / 2 ^ (i % 64).toNat) 1 == 1
theorem bitT_low (xs : List Int) (i : Int) : bitT xs i = lowB (xs[(i / 64).toNat]?.getD 0 / 2 ^ (i % 64).toNat) := rfl
theorem ret_bool {a b : Bool} (h : a = b) : Ending.returned (.bool a) = .returned (.bool b) := by rw [h]
theorem mulb {r m2 : Int} (h0 : 0 ≤ r) (h1 : r ≤ 15) (hm : 0 ≤ m2) (hm' : m2 ≤ 70) : 0 ≤ r * m2 ∧ r * m2 ≤ 1050 :=
  ⟨Int.mul_nonneg h0 hm, by have := Int.mul_le_mul h1 hm' hm (by omega); omega⟩
theorem all_take_succ (l : List Int) (p : Int → Bool) (k : Nat) (h : k < l.length) : (l.take (k + 1)).all p = ((l.take k).all p && p (l.getD k 0)) := by
  rw [List.take_succ_eq_append_getElem h, List.all_append, List.getD_eq_getElem?_getD, List.getElem?_eq_getElem h]
  simp
theorem getD_mem {l : List Int} {k : Nat} (h : k < l.length) : l.getD k 0 ∈ l := by
  rw [List.getD_eq_getElem?_getD, List.getElem?_eq_getElem h]; simp
/-- All bits of one row. -/
def rowAll (xs cs : List Int) (b : Int) (k : Nat) : Bool := (cs.take k).all (fun c => bitT xs (b + c))
theorem rowAll_succ (xs cs : List Int) (b : Int) (k : Nat) (h : k < cs.length) : rowAll xs cs b (k + 1) = (rowAll xs cs b k && bitT xs (b + cs.getD k 0)) := all_take_succ _ _ _ h
def crossAll (xs rs cs : List Int) (m2 : Int) (k : Nat) : Bool := (rs.take k).all (fun r => rowAll xs cs (r * m2) cs.length)
theorem crossAll_succ (xs rs cs : List Int) (m2 : Int) (k : Nat) (h : k < rs.length) : crossAll xs rs cs m2 (k + 1) = (crossAll xs rs cs m2 k && rowAll xs cs (rs.getD k 0 * m2) cs.length) := all_take_succ _ _ _ h
theorem crossAll_false {xs rs cs : List Int} {m2 : Int} {k : Nat} (h : k < rs.length) (hf : rowAll xs cs (rs.getD k 0 * m2) cs.length = false) : crossAll xs rs cs m2 rs.length = false := by
  unfold crossAll
  rw [List.take_length, List.all_eq_false]
  exact ⟨_, getD_mem h, by rw [hf]; simp⟩

/-- What is known of a slice of uint64 that came in: its cells, each of its kind. -/
def Came (w : World) (a : Option Addr) (n : Nat) (zs : List Int) : Prop :=
  n ≤ zs.length ∧ (∀ z ∈ zs, 0 ≤ z ∧ z ≤ 18446744073709551615) ∧ (0 < n → ∃ b off, a = some ⟨b, off, none⟩ ∧ ∀ i, i < n → w.cell? ⟨b, off + i, none⟩ = some (.int .u64 (zs.getD i 0)))

/-- What 'zzs5090awords' leaves: a new row of as many words as n bits want; nothing that was there has turned. -/
def Made (w : World) (n : Int) (e : Ending) (w' : World) : Prop := ∃ xs : List Int, e = .returned (.slice (some ⟨w.heap.size, 0, none⟩) xs.length xs.length) ∧ (xs.length : Int) = (n + 63) / 64 ∧ RowIs w' w.heap.size xs ∧ Below w.heap.size w w' ∧ w'.heap.size = w.heap.size + 1

/-- The state at a round's head: the row is there, of N words. -/
def At (w : World) (N : Nat) (wr : World) : Prop := ∃ xs : List Int, xs.length = N ∧ RowIs wr w.heap.size xs ∧ Below w.heap.size w wr ∧ wr.heap.size = w.heap.size + 1

theorem At.start (w : World) (N : Nat) : At w N (w.alloc (.cells (madeCells #[.int .u64 0] N) 23)) :=
  ⟨List.replicate N 0, by simp, RowIs.new w N, (Below.refl _ _).alloc (Nat.le_refl _) _, by simp⟩

theorem At.set {w wr : World} {N : Nat} (h : At w N wr) (k : Nat) (v : Int) : At w N (wr.setCell ⟨w.heap.size, k, none⟩ (.int .u64 v)) := by
  obtain ⟨xs, h1, h2, h3, h4⟩ := h
  exact ⟨xs.set k v, by simpa using h1, h2.set k v, h3.setCell (Nat.le_refl _) _, by simpa [World.setCell] using h4⟩

theorem At.made {w wr : World} {N : Nat} {n : Int} (h : At w N wr) (hN : (n + 63) / 64 = (N : Int)) : Made w n (.returned (.slice (some ⟨w.heap.size, 0, none⟩) N N)) wr := by
  obtain ⟨xs, h1, h2, h3, h4⟩ := h
  exact ⟨xs, by rw [h1], by rw [h1, hN], h2, h3, h4⟩

theorem At.cell {w wr : World} {N : Nat} (h : At w N wr) (k : Nat) (hk : k < N) : ∃ v, wr.cell? ⟨w.heap.size, k, none⟩ = some (.int .u64 v) := by
  obtain ⟨xs, h1, h2, _⟩ := h
  exact ⟨_, h2.cell k (by omega)⟩

theorem At.free {w wr : World} {N : Nat} (h : At w N wr) (k : Nat) : wr.frozen? ⟨w.heap.size, k, none⟩ = false := by
  obtain ⟨xs, h1, h2, _⟩ := h
  exact h2.free k

theorem At.came {w wr : World} {N : Nat} {len : Nat} {zs : List Int} {a : Option Addr} (h : At w N wr) (hz : Came w a len zs) (hl : 0 < len) :
    ∃ b off, a = some ⟨b, off, none⟩ ∧ ∀ i, i < len → wr.cell? ⟨b, off + i, none⟩ = some (.int .u64 (zs.getD i 0)) := by
  obtain ⟨b, off, e, hc⟩ := hz.2.2 hl
  obtain ⟨xs, h1, h2, h3, h4⟩ := h
  refine ⟨b, off, e, fun i hi => ?_⟩
  exact (h3.cell (p := ⟨b, off + i, none⟩) (World.block_lt_of_cell? w ⟨b, off + i, none⟩ (hc i hi))).trans (hc i hi)


#print axioms RowIs.new
end Go.Proofs.Ybulkdaju
