import Derived.Test.Qxb6618454aWalksD
import Derived.WalkKit
import Derived.ProofKit
import Derived.OpenShut
import Derived.ShutString
import Derived.ChangeOld
import Derived.Below
import Derived.SliceStrings
namespace Go.Proofs.Qxb6618454a.fnForbidsJoinInsertRemove
open Go.ChangeShapes Go.WideShapes Go.ChangeAt Go.RowKit
open Go.ChangeMaps (open_string shut_string)
set_option linter.unusedVariables false

theorem own : ownKnob Try.prog.godebug = none := by kernel_rfl
theorem laidOut : laidOutB Try.prog = true := by kernel_rfl

/-- What the walk is told of a slice of strings that came in: it is nil; or it leads to a row of 'cap' cells, the strings 'zs' (the first 'len' are its elements, the rest its spare room). -/
def IsRow (w : World) (a : Option Addr) (len cap : Nat) (zs : List ByteArray) : Prop :=
  (a = none ∧ len = 0 ∧ cap = 0 ∧ zs = []) ∨
  ∃ x, a = some x ∧ len ≤ cap ∧ cap ≤ maxLen ∧ zs.length = cap ∧ (∀ i, i < zs.length → w.cell? (x.add i) = some (.string (zs.getD i ByteArray.empty))) ∧ ∀ s ∈ zs, s.size ≤ maxLen

theorem block_lt {w : World} {p : Addr} {v : Value} (h : w.cell? p = some v) : p.block < w.heap.size := by
  by_cases hl : p.block < w.heap.size
  · exact hl
  · have e : w.heap[p.block]? = none := Array.getElem?_eq_none (by omega)
    simp [World.cell?, e] at h

/-- The elements of such a slice. -/
theorem IsRow.sl {w : World} {a : Option Addr} {len cap : Nat} {zs : List ByteArray} (h : IsRow w a len cap zs) : W.Sl w a len (zs.take len) ∧ ∀ j, j < len → ((zs.take len).getD j ByteArray.empty).size ≤ 9223372036854775807 := by
  rcases h with ⟨rfl, rfl, rfl, rfl⟩ | ⟨x, rfl, hl, hm, hz, hc, hs⟩
  · exact ⟨⟨rfl, by omega, fun h => absurd h (by omega)⟩, fun j hj => absurd hj (by omega)⟩
  · unfold maxLen at hm hs
    refine ⟨⟨by rw [List.length_take]; omega, by omega, fun hp => ?_⟩, fun j hj => ?_⟩
    · obtain ⟨b, off, spot⟩ := x
      have hspot : spot = none := by simpa [Addr.add] using World.cell?_spot (hc 0 (by omega))
      subst hspot
      have hc' : ∀ k, k < zs.length → w.cell? ⟨b, off + k, none⟩ = some (.string (zs.getD k ByteArray.empty)) := fun k hk => by rw [← Go.WideShapes.add_plain]; exact hc k hk
      refine ⟨b, off, rfl, block_lt (hc' 0 (by omega)), fun k hk => ?_⟩
      rw [hc' k (by omega), Lib.getD_takeS _ _ _ hk]
    · rw [Lib.getD_takeS _ _ _ hj]
      have := hs _ (List.getElem_mem (show j < zs.length by omega))
      simp only [List.getD_eq_getElem?_getD, List.getElem?_eq_getElem (show j < zs.length by omega), Option.getD_some]
      omega

/-- The walk: the Go text returns true, and writes nothing that was there. -/
theorem walk (a0 : Int) (a1 : Option Addr) (len1 cap1 : Nat) (z1 : List ByteArray) (a2 : Option Addr) (len2 cap2 : Nat) (z2 : List ByteArray) (a3 : ByteArray) (w : World) (w0 : (Lit.int .i64 a0).wf = true) (w1 : IsRow w a1 len1 cap1 z1) (w2 : IsRow w a2 len2 cap2 z2) (w3 : a3.size ≤ maxLen) :
    Calls Try.prog 3 #[.int .i64 a0, .slice a1 len1 cap1, .slice a2 len2 cap2, .string a3] w fun e w' => e = .returned (.bool true) ∧ Below w.heap.size w w' := by
  unfold maxLen at w3
  exact W.law_calls a0 a1 a2 len1 cap1 len2 cap2 _ _ a3 w w1.sl.1 w2.sl.1 (by omega) w1.sl.2 w2.sl.2

/-! ### THE ROW's STEP: WRITTEN OUT: LEAVE IT -/
set_option maxRecDepth 100000 in
theorem lifted (os : Os) (started : os.Started) (H : Type) (enc : TypeId × Value → H) :
    ReturnsInHanded {} Try.checked os 3 .any (Rows.fnForbidsJoinInsertRemoveSpec.pre6 enc Try.prog Try.f3 Rows.fnForbidsJoinInsertRemoveRow.domain false) (Rows.fnForbidsJoinInsertRemoveSpec.post enc Try.prog Try.f3 false true false false) := by
  refine returnsInHanded_of_change (C := Try.checked) own started (by kernel_rfl) Try.func3
    (ChangeSpec.witness6 (enc := enc) (C := Try.checked) false ⟨#[], #[.int .i64 0, .slice none 0 0, .slice none 0 0, .string ByteArray.empty], []⟩ 8 (by kernel_rfl) (by kernel_rfl) (by kernel_rfl) (by kernel_rfl)) ?_
  intro W base args ds gs before hval0 hW hcnd _
  have hval : ∀ (j : Nat) t v, Try.f3.params[j]? = some t → args[j]? = some v → Value.okWide Try.prog W .any base t v := hval0
  have hW' := hW
  obtain ⟨p, q, hA0, hV, rfl, hfz, hnd⟩ := hW
  have hA : DataW.TrodAll enc Try.prog W 0 (fun _ => true) true Try.f3.params.toList args.toList ds p := hA0
  rw [Try.params3] at hA hval
  obtain ⟨v0, vs0, d0, ds0, p0, q0, hargs, rfl, rfl, h0, r0⟩ := trodAll_cons hA
  obtain ⟨v1, vs1, d1, ds1, p1, q1, rfl, rfl, rfl, h1, r1⟩ := trodAll_cons r0
  obtain ⟨v2, vs2, d2, ds2, p2, q2, rfl, rfl, rfl, h2, r2⟩ := trodAll_cons r1
  obtain ⟨v3, vs3, d3, ds3, p3, q3, rfl, rfl, rfl, h3, r3⟩ := trodAll_cons r2
  obtain ⟨rfl, rfl, rfl⟩ := trodAll_nil r3
  obtain rfl : args = #[v0, v1, v2, v3] := by cases args; simp_all
  obtain ⟨rfl, rfl⟩ := trodVars_none hV
  obtain ⟨a0, rfl, rfl, rfl, w0⟩ := open_int Try.underlying3 (hval 0 3 v0 rfl rfl) h0
  obtain ⟨a1, len1, cap1, rfl⟩ := okWide_slice Try.underlying22 (hval 1 22 v1 rfl rfl)
  have k1 := h1
  have lt1 : ∀ x ∈ p1, x.block < W.heap.size := by obtain ⟨m, hm⟩ := k1; exact DataW.trod_lt m _ _ _ hm
  obtain ⟨z1, w1⟩ : ∃ zs, IsRow W a1 len1 cap1 zs := by
    obtain ⟨fuel, hf⟩ := h1
    rcases open_strings Try.underlying22 Try.underlying9 (by kernel_rfl) hf with ⟨hcs, _⟩ | ⟨x, l, c, zs, hcs, _, hl, hm, hz, _, hcell, hwz⟩
    · simp [Value.cells] at hcs
      obtain ⟨rfl, rfl, rfl⟩ := hcs
      exact ⟨[], .inl ⟨rfl, rfl, rfl, rfl⟩⟩
    · simp [Value.cells] at hcs
      obtain ⟨rfl, rfl, rfl⟩ := hcs
      exact ⟨zs, .inr ⟨_, rfl, hl, hm, by simpa using hz, hcell, hwz⟩⟩
  obtain ⟨a2, len2, cap2, rfl⟩ := okWide_slice Try.underlying22 (hval 2 22 v2 rfl rfl)
  have k2 := h2
  have lt2 : ∀ x ∈ p2, x.block < W.heap.size := by obtain ⟨m, hm⟩ := k2; exact DataW.trod_lt m _ _ _ hm
  obtain ⟨z2, w2⟩ : ∃ zs, IsRow W a2 len2 cap2 zs := by
    obtain ⟨fuel, hf⟩ := h2
    rcases open_strings Try.underlying22 Try.underlying9 (by kernel_rfl) hf with ⟨hcs, _⟩ | ⟨x, l, c, zs, hcs, _, hl, hm, hz, _, hcell, hwz⟩
    · simp [Value.cells] at hcs
      obtain ⟨rfl, rfl, rfl⟩ := hcs
      exact ⟨[], .inl ⟨rfl, rfl, rfl, rfl⟩⟩
    · simp [Value.cells] at hcs
      obtain ⟨rfl, rfl, rfl⟩ := hcs
      exact ⟨zs, .inr ⟨_, rfl, hl, hm, by simpa using hz, hcell, hwz⟩⟩
  obtain ⟨a3, rfl, rfl, rfl, w3⟩ := open_string Try.underlying9 (hval 3 9 v3 rfl rfl) h3
  clear hA0 hval0
  refine (walk a0 a1 len1 cap1 z1 a2 len2 cap2 z2 a3 W w0 w1 w2 w3).mono fun e W' ⟨he, bel⟩ => ?_
  subst he
  exact ⟨_, rfl, _, _, _, [], _, [], hW', trodAll_mk1 (shut_bool Try.underlying4 _), (trodAll_cons_mk (shut_int Try.underlying3 w0) (trodAll_cons_mk (Below.trod laidOut (by kernel_rfl) (of_decide_eq_true (by kernel_rfl)) k1 bel lt1) (trodAll_cons_mk (Below.trod laidOut (by kernel_rfl) (of_decide_eq_true (by kernel_rfl)) k2 bel lt2) (trodAll_cons_mk (shut_string Try.underlying9 w3) trodAll_mk0)))), rfl, bel.frame _, fun h => by cases h⟩

theorem over : Rows.fnForbidsJoinInsertRemoveRow.holds Try.pinned (OpenSpec.ofChange Rows.fnForbidsJoinInsertRemoveSpec) :=
  OpenClaim.holds_of_wide 3 Try.f3 rfl rfl rfl rfl rfl rfl rfl ⟨rfl, rfl, rfl, rfl, rfl⟩ rfl rfl rfl rfl rfl (by kernel_rfl) Try.func3 (by kernel_rfl)
    (of_decide_eq_true (by kernel_rfl)) (by unfold Func.isWrapper; first | (rw [if_pos (by decide +kernel)]; kernel_rfl) | (rw [if_neg (by decide +kernel)]; exact ⟨rfl, rfl⟩))
    (fun os started H enc _ => lifted os started H enc)

/-- ████ THE STATEMENT ████ -/
theorem proved : Rows.FnForbidsJoinInsertRemoveSaid := over
end Go.Proofs.Qxb6618454a.fnForbidsJoinInsertRemove
