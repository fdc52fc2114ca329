/-
  The plain law of the round trip: what zzs5094cput writes reads back; the encoding decodes to the components. No Go in sight.
-/
import Derived.Test.YbulkdalyFmtCheck
import Derived.Test.YbulkdalyFmtPut
namespace Go.Proofs.YbulkdalyFmt
theorem be2 (a b : Int) : be [a, b] = a * 256 + b := by simp [be]
theorem be4 (a b c d : Int) : be [a, b, c, d] = ((a * 256 + b) * 256 + c) * 256 + d := by simp [be]
theorem be8 (a b c d e f g h : Int) : be [a, b, c, d, e, f, g, h] = ((((((a * 256 + b) * 256 + c) * 256 + d) * 256 + e) * 256 + f) * 256 + g) * 256 + h := by simp [be]
theorem varF_cons (f : Int) (r : List Int) : varF (f :: r) = if wid f = 0 then some (f, r) else if r.length < wid f then none else some (be (r.take (wid f)), r.drop (wid f)) := rfl
theorem varF_put (x f : Int) (h0 : 0 ≤ x) (h1 : x ≤ 65535) (rest : List Int) : varF (putF x f ++ rest) = some (x, rest) := by
  have a1 : (x / 256) * 256 + x % 256 = x := by omega
  have a2 : x / 65536 = 0 := by omega
  have a3 : x / 16777216 = 0 := by omega
  have a4 : x / 4294967296 = 0 := by omega
  have a5 : x / 1099511627776 = 0 := by omega
  have a6 : x / 281474976710656 = 0 := by omega
  have a7 : x / 72057594037927936 = 0 := by omega
  have k2 : varF (253 :: x / 256 :: x % 256 :: rest) = some (x, rest) := by
    rw [varF_cons, if_neg (by decide), if_neg (by simp [wid])]
    show some (be [x / 256, x % 256], rest) = _
    rw [be2, a1]
  unfold putF
  split
  · split
    · have hw : wid x = 0 := by unfold wid; rw [if_neg (by omega), if_neg (by omega), if_neg (by omega)]
      rw [List.cons_append, varF_cons, if_pos hw]; rfl
    · exact k2
  · split
    · exact k2
    · split
      · rw [List.cons_append, varF_cons, if_neg (by decide), if_neg (by simp [wid])]
        show some (be [x / 16777216, x / 65536, x / 256, x % 256], rest) = _
        rw [be4, a2, a3]
        simp; omega
      · rw [List.cons_append, varF_cons, if_neg (by decide), if_neg (by simp [wid])]
        show some (be [x / 72057594037927936, x / 281474976710656, x / 1099511627776, x / 4294967296, x / 16777216, x / 65536, x / 256, x % 256], rest) = _
        rw [be8, a2, a3, a4, a5, a6, a7]
        simp; omega
theorem put_byt (x f : Int) (h0 : 0 ≤ x) (h1 : x ≤ 65535) : Byt (putF x f) := by
  intro y hy
  unfold putF at hy
  split at hy
  · split at hy
    · simp at hy; omega
    · simp at hy; omega
  · split at hy
    · simp at hy; omega
    · split at hy
      · simp at hy; omega
      · simp at hy; omega
theorem put_len (x f : Int) : 1 ≤ (putF x f).length ∧ (putF x f).length ≤ 9 := by
  unfold putF
  split
  · split <;> simp
  · split
    · simp
    · split <;> simp
theorem elF_put (t f g : Int) (v rest : List Int) (h0 : 0 ≤ t) (h1 : t ≤ 65535) (hv : v.length ≤ 65535) : elF (putF t f ++ (putF v.length g ++ (v ++ rest))) = some (t, v, rest) := by
  unfold elF
  rw [varF_put t f h0 h1]
  simp only
  rw [varF_put (v.length : Int) g (by omega) (by omega)]
  simp only
  rw [if_neg (by simp; omega)]
  simp
/-- One component of the law's argument: type, value, form. -/
abbrev Comp := Int × List Int × Int
def typF (t : Int) : Int := if t = 0 then 8 else t
def padF (t : Int) (xs : List Int) : List Int := if t = 1 ∨ t = 2 then (xs ++ List.replicate 32 0).take 32 else xs
def oneF (z : Comp) : List Int := putF (typF z.1) z.2.2 ++ (putF (padF (typF z.1) z.2.1).length (z.2.2 / 4) ++ padF (typF z.1) z.2.1)
def wantF (z : Comp) : Int × List Int := (typF z.1, padF (typF z.1) z.2.1)
def encF : List Comp → List Int
  | [] => []
  | z :: zs => oneF z ++ encF zs
/-- What the law asks of a component. -/
def Good (z : Comp) : Prop := 0 ≤ z.1 ∧ z.1 ≤ 65535 ∧ z.2.1.length ≤ 4096 ∧ Byt z.2.1 ∧ 0 ≤ z.2.2 ∧ z.2.2 ≤ 255
theorem typF_bd {t : Int} (h0 : 0 ≤ t) (h1 : t ≤ 65535) : 1 ≤ typF t ∧ typF t ≤ 65535 := by unfold typF; split <;> omega
theorem padF_len {t : Int} {xs : List Int} : (padF t xs).length = if t = 1 ∨ t = 2 then 32 else xs.length := by
  unfold padF; split <;> simp
theorem padF_le {t : Int} {xs : List Int} (h : xs.length ≤ 4096) : (padF t xs).length ≤ 4096 := by rw [padF_len]; split <;> omega
theorem padF_byt {t : Int} {xs : List Int} (h : Byt xs) : Byt (padF t xs) := by
  unfold padF
  split
  · intro y hy
    have := List.mem_of_mem_take hy
    simp at this
    rcases this with h' | h'
    · exact h y h'
    · omega
  · exact h
theorem okF_pad {t : Int} {xs : List Int} (h0 : 1 ≤ t) (h1 : t ≤ 65535) : okF t (padF t xs) = true := by
  refine okF_ok _ (by omega) (by omega) (fun h => h.2 ?_)
  rw [padF_len, if_pos h.1]
theorem oneF_byt {z : Comp} (h : Good z) : Byt (oneF z) := by
  obtain ⟨h0, h1, h2, h3, h4, h5⟩ := h
  have ht := typF_bd h0 h1
  have hp := padF_le (t := typF z.1) h2
  intro y hy
  unfold oneF at hy
  simp only [List.mem_append] at hy
  rcases hy with hy | hy | hy
  · exact put_byt _ _ (by omega) (by omega) y hy
  · exact put_byt _ _ (by omega) (by omega) y hy
  · exact padF_byt h3 y hy
theorem oneF_len {z : Comp} (h : z.2.1.length ≤ 4096) : (oneF z).length ≤ 4114 := by
  unfold oneF
  have a := put_len (typF z.1) z.2.2
  have b := put_len (padF (typF z.1) z.2.1).length (z.2.2 / 4)
  have c := padF_le (t := typF z.1) h
  simp; omega
theorem decF_enc : ∀ (zs : List Comp), (∀ z ∈ zs, Good z) → decF (encF zs) = some (zs.map wantF)
  | [], _ => rfl
  | z :: zs, h => by
    have hz := h z (by simp)
    have ih := decF_enc zs (fun y hy => h y (List.mem_cons_of_mem _ hy))
    obtain ⟨h0, h1, h2, h3, h4, h5⟩ := hz
    have ht := typF_bd h0 h1
    have hp := padF_le (t := typF z.1) h2
    have e : encF (z :: zs) = putF (typF z.1) z.2.2 ++ (putF (padF (typF z.1) z.2.1).length (z.2.2 / 4) ++ (padF (typF z.1) z.2.1 ++ encF zs)) := by
      simp [encF, oneF]
    have hne : encF (z :: zs) ≠ [] := by
      intro h'
      have h2 := congrArg List.length h'
      rw [e, List.length_append, List.length_nil] at h2
      have h3 := put_len (typF z.1) z.2.2
      omega
    rw [decF_step hne, e, elF_put _ _ _ _ _ (by omega) ht.2 (by omega)]
    simp only [okF_pad ht.1 ht.2, ih, if_true]
    rfl
theorem encF_snoc : ∀ (zs : List Comp) (z : Comp), encF (zs ++ [z]) = encF zs ++ oneF z
  | [], z => by simp [encF]
  | y :: ys, z => by simp [encF, encF_snoc ys z]
theorem encF_byt : ∀ (zs : List Comp), (∀ z ∈ zs, Good z) → Byt (encF zs)
  | [], _ => fun x hx => by simp [encF] at hx
  | z :: zs, h => fun x hx => by
    rw [encF, List.mem_append] at hx
    rcases hx with hx | hx
    · exact oneF_byt (h z (by simp)) x hx
    · exact encF_byt zs (fun y hy => h y (List.mem_cons_of_mem _ hy)) x hx
theorem encF_len : ∀ (zs : List Comp), (∀ z ∈ zs, z.2.1.length ≤ 4096) → (encF zs).length ≤ 4114 * zs.length
  | [], _ => by simp [encF]
  | z :: zs, h => by
    have a := oneF_len (h z (by simp))
    have b := encF_len zs (fun y hy => h y (List.mem_cons_of_mem _ hy))
    simp [encF]; omega
#print axioms decF_enc
end Go.Proofs.YbulkdalyFmt
