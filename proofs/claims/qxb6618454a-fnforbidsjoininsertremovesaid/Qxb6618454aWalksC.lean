import Derived.Test.Qxb6618454aWalksB
namespace Go.Proofs.Qxb6618454a.W
open Go.ChangeShapes Go.WideShapes Go.ChangeAt Go.RowKit
set_option linter.unusedVariables false

/-! ### slices that the law makes -/
/-- block g, made since W, is a row of capacity N whose first cells hold the strings ys -/
def J (W w : World) (g N : Nat) (ys : List ByteArray) : Prop := w.ownsRow W.heap.size 9 1 (.slice (some ⟨g, 0, none⟩) ys.length N) ys.length (ys.map Value.string)

theorem info9 : (Try.prog.info? 9).map (fun i => (i.zero, i.size, i.bytes)) = some (some (.string ⟨#[]⟩), 1, 16) := by kernel_rfl

theorem J.lt {W w : World} {g N : Nat} {ys : List ByteArray} (h : J W w g N ys) : g < w.heap.size := (World.ownsRow.lt h g rfl).2
theorem J.kept {W w w' : World} {g N : Nat} {ys : List ByteArray} {row : Option Nat} (h : J W w g N ys) (hg : w.grownBy w' row) (hne : some g ≠ row) : J W w' g N ys := World.ownsRow.kept h hg (Or.inr hne)
theorem J.cell {W w : World} {g N : Nat} {ys : List ByteArray} (h : J W w g N ys) (k : Nat) (hk : k < ys.length) : w.cell? ⟨g, k, none⟩ = some (.string (ys.getD k ByteArray.empty)) := by
  rw [World.ownsRow.cellAt h k (by omega)]
  simp [hk]
theorem J.sl {W w : World} {g N : Nat} {ys : List ByteArray} (h : J W w g N ys) (n : Nat) (hn : ys.length = n) (hm : n ≤ 9223372036854775807) : Sl w (some ⟨g, 0, none⟩) n ys :=
  ⟨hn, hm, fun _ => ⟨g, 0, rfl, h.lt, fun k hk => by rw [Nat.zero_add]; exact h.cell k (by omega)⟩⟩
theorem J.below {W w w' : World} {g N : Nat} {ys : List ByteArray} (h : J W w g N ys) (hb : Below w.heap.size w w') : J W w' g N ys := by
  have e := hb.block g h.lt
  refine ⟨h.1, ?_⟩
  rcases h.2 with h2 | ⟨g', cap, cur, hv, hg, hh, r⟩
  · exact Or.inl h2
  · refine Or.inr ⟨g', cap, cur, hv, hg, ?_, r⟩
    simp only [Value.slice.injEq, Option.some.injEq, Addr.mk.injEq, and_true, true_and] at hv
    obtain ⟨rfl, _⟩ := hv
    rw [e]
    exact hh

/-- 'make([]string, 0, n)' -/
theorem wp_make {W w : World} (hb : Below W.heap.size W w) {ops : Array Oper} {rest : List Oper} {o : Oper} {a : Act} {Q : Exit → Act → World → Prop}
    (hgd : o.guard = none) (l c : Operand) (hop : o.op = Op.makeSlice 22 l c) (n : Nat) (L : Int) (hl : a.eval l = .int .i64 0) (hc : a.eval c = .int .i64 L) (hL : L = (n : Int)) (hn : n ≤ 4000000)
    (hK : ∀ g w', J W w' g n [] → Below W.heap.size W w' → (∀ g' N' ys', J W w g' N' ys' → J W w' g' N' ys' ∧ g' ≠ g) → wpList Try.prog ops Q rest (a.put o.dst (.slice (some ⟨g, 0, none⟩) 0 n)) w') :
    wpList Try.prog ops Q (o :: rest) a w := by
  obtain ⟨i, hi, hz0, hz1, hz2⟩ := info_parts info9
  refine wpList_make_own w hgd l c 22 hop W.heap.size 9 i _ 1 Try.underlying22 hi hz0 hz1 .i64 .i64 L n hl hc hL (by rw [hz2]; omega) (by unfold maxLen; omega) hb.size ?_
  intro w' hown hgrow
  refine hK w.heap.size w' hown (hb.grown hgrow hb.size (fun k hk => by cases hk)) (fun g' N' ys' h' => ⟨h'.kept hgrow (by simp), ?_⟩)
  have := h'.lt
  omega

/-- 'append(s, x)' of one string, within the capacity -/
theorem wp_append {W wr : World} {g N : Nat} {ys : List ByteArray} (hJ : J W wr g N ys) (hb : Below W.heap.size W wr) {ops : Array Oper} {rest : List Oper} {o : Oper} {a : Act} {Q : Exit → Act → World → Prop}
    (hgd : o.guard = none) (s x : Operand) (hop : o.op = Op.call { callee := Callee.builtin Builtin.append, args := #[s, x], argTypes := #[22, 22] }) (str : ByteArray) (k : Nat) (hk : k = ys.length)
    (hs : a.eval s = .slice (some ⟨g, 0, none⟩) k N) (hx : a.eval x = .slice (some ⟨wr.heap.size, 0, none⟩) 1 1) (hroom : k + 1 ≤ N)
    (hK : ∀ w', J W w' g N (ys ++ [str]) → Below W.heap.size W w' → (∀ g' N' ys', g' ≠ g → J W wr g' N' ys' → J W w' g' N' ys') → wpList Try.prog ops Q rest (a.put o.dst (.slice (some ⟨g, 0, none⟩) (k + 1) N)) w') :
    wpList Try.prog ops Q (o :: rest) a (wr.alloc (.cells #[.string str] 9)) := by
  obtain ⟨i, hi, hz0, hz1, hz2⟩ := info_parts info9
  subst hk
  have hg := World.ownsRow.lt hJ g rfl
  refine wpList_append_fits _ hgd s x 22 hop W.heap.size 9 i 1 Try.underlying22 hi hz1 g ys.length N (ys.map Value.string) hs (World.ownsRow.alloc hJ _) ⟨wr.heap.size, 0, none⟩ 1 1 [.string str] hx rfl ?_ ?_ hroom ?_
  · intro j u hj
    match j, hj with
    | 0, hj => simp at hj; subst hj; simp [Addr.add]
  · intro u hu
    simp at hu
    subst hu
    rfl
  · intro w' hown hgrow
    refine hK w' ?_ ((hb.alloc hb.size _).grown hgrow (by have := hb.size; simp; omega) (fun k hk => by simp at hk; omega)) (fun g' N' ys' hne h' => ?_)
    · unfold J
      simpa using hown
    · exact J.kept (World.ownsRow.alloc h' _) hgrow (by simpa using hne)

/-! ### the plain law -/
theorem contains_bool (xs : List ByteArray) (x : ByteArray) (r : Bool) (h : x ∈ xs ↔ r = true) : Lib.containsS xs x = r := by
  rw [Bool.eq_iff_iff, Lib.containsS_iff]
  exact h
theorem contains_join (xa xb : List ByteArray) (x : ByteArray) : Lib.containsS (xa ++ xb) x = (Lib.containsS xa x || Lib.containsS xb x) := by
  refine contains_bool _ _ _ ?_
  rw [Bool.or_eq_true, Lib.containsS_iff, Lib.containsS_iff, List.mem_append]
theorem contains_insert (xa xb : List ByteArray) (x : ByteArray) : Lib.containsS (xa ++ [x] ++ xb) x = true := by
  rw [Lib.containsS_iff]
  simp
/-- what is left of the first k of zs where every copy of x is struck -/
def strike (zs : List ByteArray) (x : ByteArray) : List ByteArray := zs.filter fun z => !(z.toList == x.toList)
theorem contains_strike (zs : List ByteArray) (x : ByteArray) : Lib.containsS (strike zs x) x = false := by
  rw [Bool.eq_false_iff]
  intro h
  rw [Lib.containsS_iff] at h
  simp [strike] at h
theorem take_next (zs : List ByteArray) (k : Nat) (h : k < zs.length) : zs.take (k + 1) = zs.take k ++ [zs.getD k ByteArray.empty] := by
  rw [List.take_succ_eq_append_getElem h]
  simp [h]
theorem strike_hit (zs : List ByteArray) (x : ByteArray) (k : Nat) (h : k < zs.length) (he : ((zs.getD k ByteArray.empty).toList == x.toList) = true) : strike (zs.take (k + 1)) x = strike (zs.take k) x := by
  rw [take_next zs k h]
  unfold strike
  rw [List.filter_append, List.filter_cons, he]
  simp
theorem strike_miss (zs : List ByteArray) (x : ByteArray) (k : Nat) (h : k < zs.length) (he : ((zs.getD k ByteArray.empty).toList == x.toList) = false) : strike (zs.take (k + 1)) x = strike (zs.take k) x ++ [zs.getD k ByteArray.empty] := by
  rw [take_next zs k h]
  unfold strike
  rw [List.filter_append, List.filter_cons, he]
  simp
theorem strike_le (zs : List ByteArray) (x : ByteArray) (k : Nat) : (strike (zs.take k) x).length ≤ k := by
  unfold strike
  exact Nat.le_trans (List.length_filter_le _ _) (List.length_take_le _ _)
end Go.Proofs.Qxb6618454a.W
