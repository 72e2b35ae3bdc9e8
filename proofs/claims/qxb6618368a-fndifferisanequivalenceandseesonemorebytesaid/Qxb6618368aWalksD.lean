import Derived.Test.Qxb6618368aWalksA
import Derived.Lib.BufferWrite
import Derived.Laws.CopyRow
import Derived.Laws.IdiomStrings
namespace Go.Proofs.Qxb6618368a.W
open Go.ChangeShapes Go.WideShapes Go.ChangeAt Go.RowKit
set_option linter.unusedVariables false

/-! ### the bound on the total length -/
set_option maxHeartbeats 400000 in
theorem bytes8_yes (ch nb pad : Int) (hx : Bool) (a b c : ByteArray) (z : Int) (w : World) (h : a.size + b.size + c.size ≤ 1048576) :
    Calls Try.prog 8 #[.int .i64 ch, .int .i64 nb, .int .i64 pad, .bool hx, .string a, .string b, .string c, .int .u8 z] w fun e w' => e = .returned (.bool true) ∧ w' = w := by
  go_enter Try.func8, Try.ntmps8
  go_wp2
  go_ret
  exact ⟨rfl, rfl⟩

set_option maxHeartbeats 800000 in
theorem bytes8_no (ch nb pad : Int) (hx : Bool) (a b c : ByteArray) (z : Int) (w : World) (ha : a.size ≤ 9223372036854775807) (hb : b.size ≤ 9223372036854775807) (hc : c.size ≤ 9223372036854775807) (h : 1048576 < a.size + b.size + c.size) :
    Calls Try.prog 8 #[.int .i64 ch, .int .i64 nb, .int .i64 pad, .bool hx, .string a, .string b, .string c, .int .u8 z] w fun e w' => e = .returned (.bool false) ∧ w' = w := by
  by_cases h1 : 1048576 < a.size
  · go_enter Try.func8, Try.ntmps8
    go_wp2
    go_ret
    exact ⟨rfl, rfl⟩
  · by_cases h2 : 1048576 < b.size
    · go_enter Try.func8, Try.ntmps8
      go_wp2
      go_ret
      exact ⟨rfl, rfl⟩
    · by_cases h3 : 1048576 < a.size + b.size
      · go_enter Try.func8, Try.ntmps8
        go_wp2
        go_ret
        exact ⟨rfl, rfl⟩
      · by_cases h4 : 1048576 < c.size
        · go_enter Try.func8, Try.ntmps8
          go_wp2
          go_ret
          exact ⟨rfl, rfl⟩
        · go_enter Try.func8, Try.ntmps8
          go_wp2
          go_ret
          exact ⟨rfl, rfl⟩

/-! ### worlds -/
theorem grown_trans {a b c : World} (h : Grown a b) (g : Grown b c) : Grown a c :=
  ⟨World.keptBut_trans h.1 g.1, fun p => (g.2.1 p).trans (h.2.1 p), Nat.le_trans h.2.2 g.2.2⟩

theorem frozen_setRow (w : World) (g : Nat) (cs : Array Value) (p : Addr) : (w.setRow g cs).frozen? p = w.frozen? p := by
  by_cases h : p.block = g
  · unfold World.frozen? World.setRow
    simp only [h, Array.getElem?_modify, if_pos]
    cases w.heap[g]? with
    | none => rfl
    | some o => cases o <;> rfl
  · unfold World.frozen?
    rw [setRow_other w g p.block cs h]

theorem grown_setRow {W w : World} (h : Grown W w) {g : Nat} (hg : W.heap.size ≤ g) (cs : Array Value) : Grown W (w.setRow g cs) := by
  obtain ⟨⟨h1, h2, h3⟩, hf, hs⟩ := h
  refine ⟨⟨h1, h2, fun i hi => ?_⟩, fun x => (frozen_setRow _ _ _ _).trans (hf x), by simpa using hs⟩
  rw [setRow_other w g i cs (by omega)]
  exact h3 i hi

/-- w is W with new memory; block g, which is new, is a row of bytes that holds cs -/
structure RowAt (W w : World) (g : Nat) (cs : List Value) : Prop where
  row : w.heap[g]? = some (.cells cs.toArray 5 (0, 0))
  grown : Grown W w
  new : W.heap.size ≤ g

theorem RowAt.cell {W w : World} {g : Nat} {cs : List Value} (h : RowAt W w g cs) (j : Nat) : w.cell? ⟨g, j, none⟩ = cs[j]? := by
  simp [World.cell?, h.row]
theorem RowAt.free {W w : World} {g : Nat} {cs : List Value} (h : RowAt W w g cs) (j : Nat) : w.frozen? ⟨g, j, none⟩ = false := by
  simp [World.frozen?, h.row]
theorem RowAt.set {W w : World} {g : Nat} {cs : List Value} (h : RowAt W w g cs) (j : Nat) (v : Value) : RowAt W (w.setCell ⟨g, j, none⟩ v) g (cs.set j v) := by
  refine ⟨?_, h.grown.setCell h.new v, h.new⟩
  rw [setCell_eq_setRow w g j _ 5 (0, 0) v h.row, setRow_heap w g _ _ 5 (0, 0) h.row]
  simp

theorem info5 : (Try.prog.info? 5).map (fun i => (i.zero, i.size, i.bytes)) = some (some (.int .u8 0), 1, 1) := by kernel_rfl
theorem size5 : (Try.prog.info? 5).map (·.size) = some 1 := by kernel_rfl

/-- 'make([]byte, n)' -/
theorem wp_make {W w : World} (hG : Grown W w) {ops : Array Oper} {rest : List Oper} {o : Oper} {a : Act} {Q : Exit → Act → World → Prop}
    (hgd : o.guard = none) (l c : Operand) (hop : o.op = Op.makeSlice 25 l c) (n : Nat) (L : Int) (hl : a.eval l = .int .i64 L) (hc : a.eval c = .int .i64 L) (hL : L = (n : Int)) (hn : n ≤ 1000000)
    (hK : ∀ g w', RowAt W w' g (List.replicate n (.int .u8 0)) → wpList Try.prog ops Q rest (a.put o.dst (.slice (some ⟨g, 0, none⟩) n n)) w') :
    wpList Try.prog ops Q (o :: rest) a w := by
  refine wpList_plain hgd fun K hK' => ?_
  obtain ⟨i, hi, hz0, hz1, hz2⟩ := info_parts info5
  subst hL
  have hrun := run_make (P := Try.prog) w 25 5 i (.int .u8 0) Try.underlying25 hi hz0 .i64 .i64 (n : Int) (n : Int) (by omega) (by omega) (by rw [hz2]; omega) (by omega)
  rw [Int.toNat_natCast, hz1, Nat.mul_one] at hrun
  unfold Oper.wp
  simp [execOp, hop, hl, hc, hrun, Result.andThen]
  refine hK' _ _ (hK w.heap.size _ ⟨?_, hG.alloc _ _, hG.2.2⟩)
  have e : madeCells (Value.int .u8 0).cells n = (List.replicate n (Value.int .u8 0)).toArray := by
    rw [← toList_madeCells_one]
    rfl
  rw [e]
  exact (MapKept.heap_alloc w _).1

/-- 'copy(d, s)' from a string into such a row: its run, for the walk to take as an equation -/
theorem copy_run {W w : World} {g : Nat} {cs : List Value} (hr : RowAt W w g cs) (str : ByteArray) (n : Nat) (hle : str.size ≤ n) (hcs : cs.length = n) :
    ∃ w', (Builtin.copy_ #[25, 9] 3 #[.slice (some ⟨g, 0, none⟩) n n, .string str]).run Try.prog w = .ok (.int .i64 str.size) w' ∧ RowAt W w' g (Lib.byteCells str.data.toList ++ cs.drop str.size) := by
  have hrun := Lib.run_copy_row_string (P := Try.prog) w 25 9 3 5 g 0 n n str cs.toArray 5 Try.underlying25 size5 hr.row hle (by simp; omega)
  refine ⟨_, hrun, ⟨?_, grown_setRow hr.grown hr.new _, hr.new⟩⟩
  rw [setRow_heap w g _ _ 5 (0, 0) hr.row]
  simp

/-- 'string(b)', b such a row -/
theorem bytes_back {W w : World} {g : Nat} {l : List UInt8} (hr : RowAt W w g (Lib.byteCells l)) (n cap : Nat) (hn : n = l.length) :
    (convert 25 9 (.slice (some ⟨g, 0, none⟩) n cap)).run Try.prog w = .ok (.string ⟨l.toArray⟩) w := by
  subst hn
  refine run_convert_bytes_back w 25 9 5 ⟨g, 0, none⟩ cap l Try.underlying25 Try.underlying5 Try.underlying9 fun j hj => ?_
  rw [Addr.add_lit, Nat.zero_add, hr.cell]
  simp [Lib.byteCells, hj]

/-- the row behind copy and store -/
theorem row_last (a : ByteArray) (z : UInt8) (v : Value) : (Lib.byteCells a.data.toList ++ [v]).set a.size (.int .u8 z.toNat) = Lib.byteCells (a.data.toList ++ [z]) := by
  have h : (Lib.byteCells a.data.toList).length = a.size := by rw [Lib.byteCells_length]; simp
  rw [List.set_append_right _ _ (by omega), h]
  simp [Lib.byteCells]
theorem row_zero (n : Nat) : (List.replicate (n + 1) (Value.int .u8 0)).drop n = [.int .u8 0] := by
  rw [List.drop_replicate]
  simp

/-- 'copy(grown, a); grown[len(a)] = z; string(grown)' on a new row of len(a)+1 bytes -/
theorem grown_run {W w : World} {g : Nat} (a : ByteArray) (z : UInt8) (hr : RowAt W w g (List.replicate (a.size + 1) (.int .u8 0))) :
    ∃ w', (Builtin.copy_ #[25, 9] 3 #[.slice (some ⟨g, 0, none⟩) (a.size + 1) (a.size + 1), .string a]).run Try.prog w = .ok (.int .i64 a.size) w' ∧
      w'.cell? ⟨g, a.size, none⟩ = some (.int .u8 0) ∧ w'.frozen? ⟨g, a.size, none⟩ = false ∧
      (convert 25 9 (.slice (some ⟨g, 0, none⟩) (a.size + 1) (a.size + 1))).run Try.prog (w'.setCell ⟨g, a.size, none⟩ (.int .u8 z.toNat)) = .ok (.string ⟨(a.data.toList ++ [z]).toArray⟩) (w'.setCell ⟨g, a.size, none⟩ (.int .u8 z.toNat)) ∧
      Grown W (w'.setCell ⟨g, a.size, none⟩ (.int .u8 z.toNat)) := by
  obtain ⟨w', h1, h2⟩ := copy_run hr a (a.size + 1) (by omega) (by simp)
  rw [row_zero] at h2
  have h3 := h2.set a.size (.int .u8 z.toNat)
  rw [row_last] at h3
  have hl : (Lib.byteCells a.data.toList).length = a.size := by rw [Lib.byteCells_length]; simp
  refine ⟨w', h1, ?_, h2.free _, bytes_back h3 _ _ (by simp), h3.grown⟩
  rw [h2.cell, List.getElem?_append_right (by omega), hl]
  simp
end Go.Proofs.Qxb6618368a.W
