/-
  'zzs5094cput' (10), walked: it appends putF onto an owned row of bytes.
-/
import Derived.Test.YbulkdalyFmtClone
import Derived.ArgAppend
namespace Go.Proofs.YbulkdalyFmt
open Go.RowKit
theorem own_mono {w : World} {base base' : Nat} {e : TypeId} {size : Nat} {v : Value} {n : Nat} {xs : List Value} (h : w.ownsRow base' e size v n xs) (hb : base ≤ base') : w.ownsRow base e size v n xs := by
  obtain ⟨hl, h⟩ := h
  refine ⟨hl, ?_⟩
  rcases h with h | ⟨g, cap, cur, h1, h2, h3⟩
  · exact Or.inl h
  · exact Or.inr ⟨g, cap, cur, h1, Nat.le_trans hb h2, h3⟩
/-- The block of v' is the block of v, or a new one. -/
def Sep (w : World) (v v' : Value) : Prop := v'.ownBlock = v.ownBlock ∨ ∀ k, v'.ownBlock = some k → w.heap.size ≤ k
/-- 'append' onto an owned row of bytes that is, or becomes, not empty: where the result lies is told too. -/
theorem wpList_append_sep {ops : Array Oper} {rest : List Oper} {o : Oper} {a : Act} {Q : Exit → Act → World → Prop} (w : World) (hgd : o.guard = none) (s x : Operand)
    (ho : o.op = .call { callee := .builtin .append, args := #[s, x], argTypes := #[22, 22] }) (base : Nat)
    (v : Value) (n : Nat) (xs : List Value) (hs : a.eval s = v) (hown : w.ownsRow base 5 1 v n xs)
    (ad : Addr) (m c : Nat) (news : List Value) (hx : a.eval x = .slice (some ad) m c) (hl : news.length = m * 1) (hnews : ∀ j u, news[j]? = some u → w.cell? (ad.add j) = some u) (h1 : ∀ u ∈ news, u.oneCell' = true)
    (hnm : n + m ≤ 100000000) (hpos : 0 < n + m) (hbase : base ≤ w.heap.size)
    (h : ∀ v' w', w'.ownsRow base 5 1 v' (n + m) (xs ++ news) → w.grownBy w' v.ownBlock → Sep w v v' → wpList Ybaf.prog ops Q rest (a.put o.dst v') w') : wpList Ybaf.prog ops Q (o :: rest) a w := by
  obtain ⟨i0, hi, hz0, hz1, hz2⟩ := info_parts info5
  have hown' := hown
  obtain ⟨hxl, hown⟩ := hown
  rcases hown with ⟨rfl, rfl⟩ | ⟨g, cap, cur, rfl, h2, h3, h4, h5, h6, h7⟩
  · have hx0 : xs = [] := List.eq_nil_of_length_eq_zero (by simpa using hxl)
    subst hx0
    refine wpList_append_grows w hgd s x 22 ho 5 i0 _ 1 1 Ybaf.underlying22 hi hz0 hz1 hz2 rfl (by decide) none 0 0 [] hs (fun _ => ⟨rfl, rfl⟩) rfl (fun b hb => by cases hb) ad m c news hx hl hnews h1 hpos (by unfold maxLen; omega) (by omega) ?_
    intro v' w' ho' hg
    exact h v' w' (own_mono ho' hbase) hg (Or.inr fun k hk => (ho'.lt k hk).1)
  · by_cases hfit : n + m ≤ cap
    · refine wpList_append_fits w hgd s x 22 ho base 5 i0 1 Ybaf.underlying22 hi hz1 g n cap xs hs hown' ad m c news hx hl hnews h1 hfit ?_
      intro w' ho' hg
      exact h _ w' ho' hg (Or.inl rfl)
    · refine wpList_append_grows w hgd s x 22 ho 5 i0 _ 1 1 Ybaf.underlying22 hi hz0 hz1 hz2 rfl (by decide) (some ⟨g, 0, none⟩) n cap xs hs (fun hb => by cases hb) hxl (fun b hb => ?_) ad m c news hx hl hnews h1 (by omega) (by unfold maxLen; omega) (by omega) ?_
      · have e := Option.some.inj hb
        subst e
        exact hown'.cells rfl
      · intro v' w' ho' hg
        exact h v' w' (own_mono ho' hbase) ⟨hg.os, hg.tape, hg.output, hg.size, fun k hk _ => hg.block k hk (by simp)⟩ (Or.inr fun k hk => (ho'.lt k hk).1)
/-- The bytes that zzs5094cput appends. -/
def putF (x f : Int) : List Int :=
  if f % 4 = 0 then (if x < 253 then [x] else [253, x / 256, x % 256]) else if f % 4 = 1 then [253, x / 256, x % 256] else if f % 4 = 2 then [254, x / 16777216, x / 65536, x / 256, x % 256]
  else [255, x / 72057594037927936, x / 281474976710656, x / 1099511627776, x / 4294967296, x / 16777216, x / 65536, x / 256, x % 256]
theorem cells_lit (w : World) (xs : List Int) : ∀ j u, (xs.map (Value.int .u8))[j]? = some u → (w.alloc (.cells (xs.map (Value.int .u8)).toArray 5)).cell? ((⟨w.heap.size, 0, none⟩ : Addr).add j) = some u := by
  intro j u hj
  have e : (⟨w.heap.size, 0, none⟩ : Addr).add j = ⟨w.heap.size, j, none⟩ := by simp [Addr.add]; exact fun h => h.symm
  rw [e, cell_of_row _ _ j _ 5 (0, 0) (heap_alloc_new w _)]
  simpa using hj
theorem oneCells (xs : List Int) : ∀ u ∈ xs.map (Value.int .u8), u.oneCell' = true := by
  intro u hu
  simp at hu
  obtain ⟨x, _, rfl⟩ := hu
  rfl
/-- What an append onto the wire leaves, seen from ahead of the block that bore the new bytes. -/
def Onto (base n : Nat) (v : Value) (ys : List Value) (news : List Int) (w : World) (v' : Value) (w' : World) : Prop :=
  w'.ownsRow base 5 1 v' (n + news.length) (ys ++ news.map (Value.int .u8)) ∧ w.grownBy w' v.ownBlock ∧ Sep w v v'
theorem put_end {base n : Nat} {v v' : Value} {ys : List Value} {news : List Int} {w w' : World} {o : Obj} (ho : w'.ownsRow base 5 1 v' (n + news.length) (ys ++ news.map (Value.int .u8))) (hg : (w.alloc o).grownBy w' v.ownBlock) (hs : Sep (w.alloc o) v v') :
    Onto base n v ys news w v' w' := by
  refine ⟨ho, ⟨hg.os, hg.tape, hg.output, Nat.le_trans (by simp) hg.size, fun k hk hne => ?_⟩, ?_⟩
  · rw [hg.block k (by simp; omega) hne, Below.heap_alloc w o k hk]
  · rcases hs with h | h
    · exact Or.inl h
    · exact Or.inr fun k hk => Nat.le_trans (by simp) (h k hk)
set_option maxRecDepth 100000 in
set_option maxHeartbeats 400000 in
theorem put_any (base n : Nat) (v : Value) (ys : List Value) (x f : Int) (w : World) (ho : w.ownsRow base 5 1 v n ys) (hb : base ≤ w.heap.size) (hn : n ≤ 50000000) (hx : 0 ≤ x ∧ x ≤ 65535) (hf : 0 ≤ f ∧ f ≤ 255) :
    Calls Ybaf.prog 10 #[v, .int .u64 x, .int .u8 f] w fun e w' => ∃ v', e = .returned v' ∧ Onto base n v ys (putF x f) w v' w' := by
  have HO := hid ho
  clear ho
  unfold putF
  by_cases f0 : f % 4 = 0
  · rw [if_pos f0]
    by_cases hx3 : x < 253
    · rw [if_pos hx3]
      go_enter Ybaf.func10, Ybaf.ntmps10
      go_wp2_with (at_builtin; refine wpList_append_sep _ rfl (.tmp 13) (.tmp 16) rfl base v n ys rfl (HO.out.alloc _) ⟨w.heap.size, 0, none⟩ 1 1 (([x] : List Int).map (Value.int .u8)) rfl rfl (cells_lit w [x]) (oneCells _) (by omega) (by omega) (by simp; omega) ?_; intro v' w' ho' hg' hs'; have R := hid (put_end ho' hg' hs'); clear ho' hg' hs')
      go_ret
      exact ⟨_, rfl, R.out⟩
    · rw [if_neg hx3]
      go_enter Ybaf.func10, Ybaf.ntmps10
      go_wp2_with (at_builtin; refine wpList_append_sep _ rfl (.tmp 18) (.tmp 24) rfl base v n ys rfl (HO.out.alloc _) ⟨w.heap.size, 0, none⟩ 3 3 (([253, x / 256, x % 256] : List Int).map (Value.int .u8)) rfl rfl (cells_lit w [253, x / 256, x % 256]) (oneCells _) (by omega) (by omega) (by simp; omega) ?_; intro v' w' ho' hg' hs'; have R := hid (put_end ho' hg' hs'); clear ho' hg' hs')
      go_ret
      exact ⟨_, rfl, R.out⟩
  · rw [if_neg f0]
    by_cases f1 : f % 4 = 1
    · rw [if_pos f1]
      go_enter Ybaf.func10, Ybaf.ntmps10
      go_wp2_with (at_builtin; refine wpList_append_sep _ rfl (.tmp 28) (.tmp 34) rfl base v n ys rfl (HO.out.alloc _) ⟨w.heap.size, 0, none⟩ 3 3 (([253, x / 256, x % 256] : List Int).map (Value.int .u8)) rfl rfl (cells_lit w [253, x / 256, x % 256]) (oneCells _) (by omega) (by omega) (by simp; omega) ?_; intro v' w' ho' hg' hs'; have R := hid (put_end ho' hg' hs'); clear ho' hg' hs')
      go_ret
      exact ⟨_, rfl, R.out⟩
    · rw [if_neg f1]
      by_cases f2 : f % 4 = 2
      · rw [if_pos f2]
        go_enter Ybaf.func10, Ybaf.ntmps10
        go_wp2_with (at_builtin; refine wpList_append_sep _ rfl (.tmp 38) (.tmp 50) rfl base v n ys rfl (HO.out.alloc _) ⟨w.heap.size, 0, none⟩ 5 5 (([254, x / 16777216, x / 65536, x / 256, x % 256] : List Int).map (Value.int .u8)) rfl rfl (cells_lit w [254, x / 16777216, x / 65536, x / 256, x % 256]) (oneCells _) (by omega) (by omega) (by simp; omega) ?_; intro v' w' ho' hg' hs'; have R := hid (put_end ho' hg' hs'); clear ho' hg' hs')
        go_ret
        exact ⟨_, rfl, R.out⟩
      · rw [if_neg f2]
        go_enter Ybaf.func10, Ybaf.ntmps10
        go_wp2_with (at_builtin; refine wpList_append_sep _ rfl (.tmp 52) (.tmp 76) rfl base v n ys rfl (HO.out.alloc _) ⟨w.heap.size, 0, none⟩ 9 9 (([255, x / 72057594037927936, x / 281474976710656, x / 1099511627776, x / 4294967296, x / 16777216, x / 65536, x / 256, x % 256] : List Int).map (Value.int .u8)) rfl rfl (cells_lit w [255, x / 72057594037927936, x / 281474976710656, x / 1099511627776, x / 4294967296, x / 16777216, x / 65536, x / 256, x % 256]) (oneCells _) (by omega) (by omega) (by simp; omega) ?_; intro v' w' ho' hg' hs'; have R := hid (put_end ho' hg' hs'); clear ho' hg' hs')
        go_ret
        exact ⟨_, rfl, R.out⟩
#print axioms put_any
end Go.Proofs.YbulkdalyFmt
