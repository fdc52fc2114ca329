/-
  Plain functions on lists of bytes (what a VAR-NUMBER, an element, a Name reads as), views of bytes in memory. No walk.
-/
import Derived.Test.YbulkdalyFmtRows
import Derived.WalkKit
import Derived.WalkSpells
import Derived.WalkLawsBesides
namespace Go.Proofs.YbulkdalyFmt
open Go.RowKit
theorem hid {p : Prop} (h : p) : Hid p := h

/-! ### plain -/
/-- All are bytes. -/
def Byt (xs : List Int) : Prop := ∀ x ∈ xs, 0 ≤ x ∧ x ≤ 255
theorem Byt.take {xs : List Int} (h : Byt xs) (k : Nat) : Byt (xs.take k) := fun x hx => h x (List.mem_of_mem_take hx)
theorem Byt.drop {xs : List Int} (h : Byt xs) (k : Nat) : Byt (xs.drop k) := fun x hx => h x (List.mem_of_mem_drop hx)
theorem getD_mem {l : List Int} {k : Nat} (h : k < l.length) : l.getD k 0 ∈ l := by
  rw [List.getD_eq_getElem?_getD, List.getElem?_eq_getElem h]; simp
theorem Byt.at {xs : List Int} (h : Byt xs) {k : Nat} (hk : k < xs.length) : 0 ≤ xs.getD k 0 ∧ xs.getD k 0 ≤ 255 := h _ (getD_mem hk)
/-- Bytes read as a big-endian number. -/
def be (xs : List Int) : Int := xs.foldl (fun v x => v * 256 + x) 0
theorem be_snoc (xs : List Int) (x : Int) : be (xs ++ [x]) = be xs * 256 + x := by unfold be; rw [List.foldl_append]; rfl
theorem be_take_succ (xs : List Int) (k : Nat) (h : k < xs.length) : be (xs.take (k + 1)) = be (xs.take k) * 256 + xs.getD k 0 := by
  rw [List.take_succ_eq_append_getElem h, be_snoc, List.getD_eq_getElem?_getD, List.getElem?_eq_getElem h]; rfl
theorem be_lt (xs : List Int) (h : Byt xs) : ∀ k, k ≤ xs.length → 0 ≤ be (xs.take k) ∧ be (xs.take k) < 256 ^ k
  | 0, _ => by simp [be]
  | k + 1, hk => by
    have ih := be_lt xs h k (by omega)
    have hx := h.at (k := k) (by omega)
    rw [be_take_succ xs k (by omega)]
    have : (256 : Int) ^ (k + 1) = 256 ^ k * 256 := by rw [Int.pow_succ]
    omega
theorem pow_le {a b : Nat} (h : a ≤ b) : (256 : Int) ^ a ≤ 256 ^ b := by
  have h1 := Nat.pow_le_pow_right (n := 256) (by omega) h
  have h2 : ((256 ^ a : Nat) : Int) ≤ ((256 ^ b : Nat) : Int) := Int.ofNat_le.2 h1
  rw [Int.natCast_pow, Int.natCast_pow] at h2
  exact h2
theorem be_bd (xs : List Int) (h : Byt xs) (hl : xs.length ≤ 8) : 0 ≤ be xs ∧ be xs ≤ 18446744073709551615 := by
  have := be_lt xs h xs.length (Nat.le_refl _)
  rw [List.take_length] at this
  have h2 : (256 : Int) ^ xs.length ≤ 256 ^ 8 := pow_le hl
  have h3 : (256 : Int) ^ 8 = 18446744073709551616 := by decide
  omega
theorem be_bd7 (xs : List Int) (h : Byt xs) (k : Nat) (hk : k ≤ xs.length) (hl : k ≤ 7) : 0 ≤ be (xs.take k) ∧ be (xs.take k) ≤ 72057594037927935 := by
  have := be_lt xs h k hk
  have h2 : (256 : Int) ^ k ≤ 256 ^ 7 := pow_le hl
  have h3 : (256 : Int) ^ 7 = 72057594037927936 := by decide
  omega
/-- How many bytes follow the first one. -/
def wid (f : Int) : Nat := if f = 253 then 2 else if f = 254 then 4 else if f = 255 then 8 else 0
theorem wid_le (f : Int) : wid f ≤ 8 := by unfold wid; split; omega; split; omega; split <;> omega
/-- A VAR-NUMBER and what follows it. -/
def varF : List Int → Option (Int × List Int)
  | [] => none
  | f :: r => if wid f = 0 then some (f, r) else if r.length < wid f then none else some (be (r.take (wid f)), r.drop (wid f))
theorem varF_len {xs : List Int} {v : Int} {r : List Int} (h : varF xs = some (v, r)) : r.length < xs.length := by
  unfold varF at h
  split at h
  · cases h
  · rename_i f q
    split at h
    · simp at h; obtain ⟨_, rfl⟩ := h; simp
    · split at h
      · cases h
      · simp at h; obtain ⟨_, rfl⟩ := h; simp; omega
theorem varF_byt {xs : List Int} {v : Int} {r : List Int} (hb : Byt xs) (h : varF xs = some (v, r)) : Byt r ∧ 0 ≤ v ∧ v ≤ 18446744073709551615 := by
  unfold varF at h
  split at h
  · cases h
  · rename_i f q
    have hq : Byt q := fun x hx => hb x (List.mem_cons_of_mem _ hx)
    have hf := hb f (by simp)
    split at h
    · simp at h; obtain ⟨rfl, rfl⟩ := h; exact ⟨hq, by omega, by omega⟩
    · split at h
      · cases h
      · simp at h; obtain ⟨rfl, rfl⟩ := h
        exact ⟨hq.drop _, be_bd _ (hq.take _) (by have := wid_le f; simp; omega)⟩
theorem varF_suffix {xs : List Int} {v : Int} {r : List Int} (h : varF xs = some (v, r)) : r = xs.drop (xs.length - r.length) := by
  unfold varF at h
  split at h
  · cases h
  · rename_i f q
    split at h
    · simp at h; obtain ⟨rfl, rfl⟩ := h; simp
    · split at h
      · cases h
      · simp at h; obtain ⟨rfl, rfl⟩ := h
        have e : (f :: q).length - (q.drop (wid f)).length = wid f + 1 := by simp; omega
        rw [e]; simp
/-- An element: its type, its value, and what follows it. -/
def elF (xs : List Int) : Option (Int × List Int × List Int) :=
  match varF xs with
  | none => none
  | some (t, r) => match varF r with
    | none => none
    | some (l, q) => if (q.length : Int) < l then none else some (t, q.take l.toNat, q.drop l.toNat)
/-- Is the component well formed? -/
def okF (t : Int) (v : List Int) : Bool := !(t == 0 || decide (65535 < t)) && !((t == 1 || t == 2) && !(v.length == 32))
theorem elF_len {xs : List Int} {t : Int} {v r : List Int} (h : elF xs = some (t, v, r)) : r.length < xs.length := by
  unfold elF at h
  split at h
  · cases h
  · rename_i t' q h1
    split at h
    · cases h
    · rename_i l q2 h2
      split at h
      · cases h
      · simp at h; obtain ⟨rfl, rfl, rfl⟩ := h
        have := varF_len h1; have := varF_len h2
        simp; omega
/-- The components of a Name, with fuel. -/
def decN : Nat → List Int → Option (List (Int × List Int))
  | 0, _ => some []
  | n + 1, xs => if xs = [] then some [] else
    match elF xs with
    | none => none
    | some (t, v, r) => if okF t v then (match decN n r with | none => none | some cs => some ((t, v) :: cs)) else none
def decF (xs : List Int) : Option (List (Int × List Int)) := decN xs.length xs
theorem decN_fuel : ∀ (n : Nat) (xs : List Int), xs.length ≤ n → decN n xs = decN xs.length xs := by
  intro n
  induction n using Nat.strongRecOn with
  | _ n ih =>
    intro xs hx
    match n, xs with
    | 0, [] => rfl
    | n + 1, [] => simp [decN]
    | n + 1, x :: q =>
      have e : (x :: q).length = q.length + 1 := rfl
      rw [e]
      unfold decN
      cases he : elF (x :: q) with
      | none => rfl
      | some p =>
        obtain ⟨t, v, r⟩ := p
        have hl := elF_len he
        have h1 := ih n (by omega) r (by simp at hl hx; omega)
        by_cases hq : q.length ≤ n
        · have h2 : decN q.length r = decN r.length r := by
            rcases Nat.lt_or_ge q.length (n + 1) with h | h
            · exact ih q.length (by omega) r (by simp at hl; omega)
            · omega
          simp only [h1, h2]
        · simp at hx; omega
theorem decF_nil : decF [] = some [] := rfl
theorem decF_step {xs : List Int} (h : xs ≠ []) : decF xs = match elF xs with
    | none => none
    | some (t, v, r) => if okF t v then (match decF r with | none => none | some cs => some ((t, v) :: cs)) else none := by
  match xs, h with
  | x :: q, _ =>
    show decN (q.length + 1) (x :: q) = _
    unfold decN
    rw [if_neg (by simp)]
    cases he : elF (x :: q) with
    | none => rfl
    | some p =>
      obtain ⟨t, v, r⟩ := p
      have hl := elF_len he
      have := decN_fuel q.length r (by simp at hl; omega)
      simp only [decF, this]

/-! ### bytes in memory -/
/-- The slice reads as the bytes xs. -/
def View (w : World) (a : Option Addr) (n c : Nat) (xs : List Int) : Prop :=
  n = xs.length ∧ n ≤ c ∧ c ≤ 9223372036854775807 ∧ Byt xs ∧ (0 < n → ∃ b off, a = some ⟨b, off, none⟩ ∧ ∀ i, i < n → w.cell? ⟨b, off + i, none⟩ = some (.int .u8 (xs.getD i 0)))
theorem View.later {w w' : World} {a : Option Addr} {n c : Nat} {xs : List Int} (h : View w a n c xs) (hb : Below w.heap.size w w') : View w' a n c xs := by
  obtain ⟨h1, h2, h3, h4, h5⟩ := h
  refine ⟨h1, h2, h3, h4, fun hn => ?_⟩
  obtain ⟨b, off, e, hc⟩ := h5 hn
  exact ⟨b, off, e, fun i hi => (hb.cell (p := ⟨b, off + i, none⟩) (World.block_lt_of_cell? w ⟨b, off + i, none⟩ (hc i hi))).trans (hc i hi)⟩
theorem View.drewN {w : World} {a : Option Addr} {n c : Nat} {xs : List Int} (h : View w a n c xs) (d : Nat) : View (w.drewN d) a n c xs := h
/-- A part of a view. The pointer is the model's own: at the end of the room it stays. -/
theorem View.part {w : World} {b off n c : Nat} {xs : List Int} (h : View w (some ⟨b, off, none⟩) n c xs) (lo m : Nat) (a : Option Addr) (c2 : Nat) (hlo : lo + m ≤ n) (ha : 0 < m → a = some ⟨b, off + lo, none⟩) (hc : m ≤ c2 ∧ c2 ≤ 9223372036854775807) : View w a m c2 ((xs.drop lo).take m) := by
  obtain ⟨h1, h2, h3, h4, h5⟩ := h
  refine ⟨by simp; omega, hc.1, hc.2, (h4.drop _).take _, fun hm => ?_⟩
  obtain ⟨b', off', e, hcell⟩ := h5 (by omega)
  simp at e; obtain ⟨rfl, rfl⟩ := e
  refine ⟨b, off + lo, ha hm, fun i hi => ?_⟩
  have := hcell (lo + i) (by omega)
  rw [← Nat.add_assoc] at this
  rw [this]
  simp [List.getD_eq_getElem?_getD, hi, List.getElem?_drop]
theorem View.empty (w : World) (a : Option Addr) (c : Nat) (hc : c ≤ 9223372036854775807) : View w a 0 c [] := ⟨rfl, Nat.zero_le _, hc, (fun x hx => by simp at hx), fun h => absurd h (by omega)⟩

#print axioms decF_step
end Go.Proofs.YbulkdalyFmt
