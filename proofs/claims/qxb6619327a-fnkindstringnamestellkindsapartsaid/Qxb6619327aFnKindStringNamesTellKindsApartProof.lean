import Derived.Test.Qxb6619327aRows
import Derived.WalkKit
import Derived.ProofKit
import Derived.OpenShut
import Derived.ShutString
namespace Go.Proofs.Qxb6619327a.fnKindStringNamesTellKindsApart
open Go.ChangeShapes Go.WideShapes Go.ChangeAt Go.RowKit
open Go.ChangeMaps (open_string shut_string)
set_option linter.unusedVariables false      -- a walk need not use every 'w<i>' (that an integer argument fits its kind)

theorem own : ownKnob Try.prog.godebug = none := by kernel_rfl

theorem hide {p : Prop} (h : p) : Hid p := h

/-- what the two callees say of a kind: its name n, and whether it is known -/
def Says (k : Int) (n : ByteArray) (b : Bool) : Prop :=
  (∀ w, Calls Try.prog 21 #[.int .u8 k] w fun e w' => e = .returned (.string n) ∧ w' = w) ∧
  (∀ w, Calls Try.prog 22 #[.int .u8 k] w fun e w' => e = .returned (.bool b) ∧ w' = w)

theorem says1 : Says 1 { data := #[98, 101, 103, 105, 110] } true := by
  refine ⟨fun w => ?_, fun w => ?_⟩
  · go_enter Try.func21, Try.ntmps21
    go_wp2
    go_ret
    exact ⟨rfl, rfl⟩
  · go_enter Try.func22, Try.ntmps22
    go_wp2
    go_ret
    exact ⟨rfl, rfl⟩

theorem says2 : Says 2 { data := #[99, 111, 109, 109, 105, 116] } true := by
  refine ⟨fun w => ?_, fun w => ?_⟩
  · go_enter Try.func21, Try.ntmps21
    go_wp2
    go_ret
    exact ⟨rfl, rfl⟩
  · go_enter Try.func22, Try.ntmps22
    go_wp2
    go_ret
    exact ⟨rfl, rfl⟩

theorem says3 : Says 3 { data := #[114, 111, 108, 108, 98, 97, 99, 107] } true := by
  refine ⟨fun w => ?_, fun w => ?_⟩
  · go_enter Try.func21, Try.ntmps21
    go_wp2
    go_ret
    exact ⟨rfl, rfl⟩
  · go_enter Try.func22, Try.ntmps22
    go_wp2
    go_ret
    exact ⟨rfl, rfl⟩

theorem says_other (k : Int) (h : k < 1 ∨ 3 < k) : Says k { data := #[117, 110, 107, 110, 111, 119, 110] } false := by
  have h1 : (k == 1) = false := by rw [beq_eq_false_iff_ne]; omega
  have h2 : (k == 2) = false := by rw [beq_eq_false_iff_ne]; omega
  have h3 : (k == 3) = false := by rw [beq_eq_false_iff_ne]; omega
  refine ⟨fun w => ?_, fun w => ?_⟩
  · go_enter Try.func21, Try.ntmps21
    go_wp2
    go_ret
    exact ⟨rfl, rfl⟩
  · rcases h with h | h
    · go_enter Try.func22, Try.ntmps22
      go_wp2
      go_ret
      exact ⟨rfl, rfl⟩
    · have h4 : decide (k ≤ 3) = false := by rw [decide_eq_false_iff_not]; omega
      go_enter Try.func22, Try.ntmps22
      go_wp2
      go_ret
      exact ⟨rfl, rfl⟩

/-- the law at two kinds, whatever their names: the last row of the Go text reckoned out -/
theorem law_at (a b : Int) (x y : ByteArray) (ka kb eab exy eu ev : Bool) (Ha : Hid (Says a x ka)) (Hb : Hid (Says b y kb))
    (h1 : (a == b) = eab) (h2 : (x.toList == y.toList) = exy) (h3 : (x.toList == [117, 110, 107, 110, 111, 119, 110]) = eu) (h4 : (y.toList == [117, 110, 107, 110, 111, 119, 110]) = ev)
    (hl : ((exy == (eab || (!ka && !kb))) && (eu == !ka) && (ev == !kb)) = true) (w : World) :
    Calls Try.prog 8 #[.int .u8 a, .int .u8 b] w fun e w' => e = .returned (.bool true) ∧ Grown w w' := by
  cases eab <;> cases ka <;> cases kb <;> cases exy <;> cases eu <;> cases ev <;> first | (exact absurd hl (by decide)) | skip
  all_goals
    clear hl
    go_enter Try.func8, Try.ntmps8
    go_wp2_with fail
    refine (Ha.out.1 _).mono ?_
    rintro e w1 ⟨rfl, rfl⟩
    go_wp2_with fail
    refine (Hb.out.1 _).mono ?_
    rintro e w1 ⟨rfl, rfl⟩
    go_wp2_with fail
    refine (Ha.out.2 _).mono ?_
    rintro e w1 ⟨rfl, rfl⟩
    go_wp2_with fail
    refine (Hb.out.2 _).mono ?_
    rintro e w1 ⟨rfl, rfl⟩
    go_wp2_with fail
    go_ret
    exact ⟨rfl, Grown.refl _⟩

theorem four (k : Int) : k = 1 ∨ k = 2 ∨ k = 3 ∨ (k < 1 ∨ 3 < k) := by omega

set_option maxHeartbeats 1000000 in
theorem walk (a0 : Int) (a1 : Int) (w0 : (Lit.int .u8 a0).wf = true) (w1 : (Lit.int .u8 a1).wf = true) (w : World) :
    Calls Try.prog 8 #[.int .u8 a0, .int .u8 a1] w fun e w' => e = .returned (.bool true) ∧ Grown w w' := by
  rcases four a0 with rfl | rfl | rfl | h0 <;> rcases four a1 with rfl | rfl | rfl | h1
  · exact law_at 1 1 _ _ _ _ true true false false (hide says1) (hide says1) rfl (by decide +kernel) (by decide +kernel) (by decide +kernel) rfl w
  · exact law_at 1 2 _ _ _ _ false false false false (hide says1) (hide says2) rfl (by decide +kernel) (by decide +kernel) (by decide +kernel) rfl w
  · exact law_at 1 3 _ _ _ _ false false false false (hide says1) (hide says3) rfl (by decide +kernel) (by decide +kernel) (by decide +kernel) rfl w
  · exact law_at 1 a1 _ _ _ _ false false false true (hide says1) (hide (says_other a1 h1)) (by rw [beq_eq_false_iff_ne]; omega) (by decide +kernel) (by decide +kernel) (by decide +kernel) rfl w
  · exact law_at 2 1 _ _ _ _ false false false false (hide says2) (hide says1) rfl (by decide +kernel) (by decide +kernel) (by decide +kernel) rfl w
  · exact law_at 2 2 _ _ _ _ true true false false (hide says2) (hide says2) rfl (by decide +kernel) (by decide +kernel) (by decide +kernel) rfl w
  · exact law_at 2 3 _ _ _ _ false false false false (hide says2) (hide says3) rfl (by decide +kernel) (by decide +kernel) (by decide +kernel) rfl w
  · exact law_at 2 a1 _ _ _ _ false false false true (hide says2) (hide (says_other a1 h1)) (by rw [beq_eq_false_iff_ne]; omega) (by decide +kernel) (by decide +kernel) (by decide +kernel) rfl w
  · exact law_at 3 1 _ _ _ _ false false false false (hide says3) (hide says1) rfl (by decide +kernel) (by decide +kernel) (by decide +kernel) rfl w
  · exact law_at 3 2 _ _ _ _ false false false false (hide says3) (hide says2) rfl (by decide +kernel) (by decide +kernel) (by decide +kernel) rfl w
  · exact law_at 3 3 _ _ _ _ true true false false (hide says3) (hide says3) rfl (by decide +kernel) (by decide +kernel) (by decide +kernel) rfl w
  · exact law_at 3 a1 _ _ _ _ false false false true (hide says3) (hide (says_other a1 h1)) (by rw [beq_eq_false_iff_ne]; omega) (by decide +kernel) (by decide +kernel) (by decide +kernel) rfl w
  · exact law_at a0 1 _ _ _ _ false false true false (hide (says_other a0 h0)) (hide says1) (by rw [beq_eq_false_iff_ne]; omega) (by decide +kernel) (by decide +kernel) (by decide +kernel) rfl w
  · exact law_at a0 2 _ _ _ _ false false true false (hide (says_other a0 h0)) (hide says2) (by rw [beq_eq_false_iff_ne]; omega) (by decide +kernel) (by decide +kernel) (by decide +kernel) rfl w
  · exact law_at a0 3 _ _ _ _ false false true false (hide (says_other a0 h0)) (hide says3) (by rw [beq_eq_false_iff_ne]; omega) (by decide +kernel) (by decide +kernel) (by decide +kernel) rfl w
  · exact law_at a0 a1 _ _ _ _ _ true true true (hide (says_other a0 h0)) (hide (says_other a1 h1)) rfl (by decide +kernel) (by decide +kernel) (by decide +kernel) (by cases (a0 == a1) <;> rfl) w

/-! ### THE ROW's STEP: WRITTEN OUT: LEAVE IT -/
set_option maxRecDepth 100000 in
theorem lifted (os : Os) (started : os.Started) (H : Type) (enc : TypeId × Value → H) :
    ReturnsInHanded {} Try.checked os 8 .any (Rows.fnKindStringNamesTellKindsApartSpec.pre6 enc Try.prog Try.f8 Rows.fnKindStringNamesTellKindsApartRow.domain false) (Rows.fnKindStringNamesTellKindsApartSpec.post enc Try.prog Try.f8 false true false false) := by
  refine returnsInHanded_of_change (C := Try.checked) own started (by kernel_rfl) Try.func8
    (ChangeSpec.witness6 (enc := enc) (C := Try.checked) false ⟨#[], #[.int .u8 0, .int .u8 0], []⟩ 8 (by kernel_rfl) (by kernel_rfl) (by kernel_rfl) (by kernel_rfl)) ?_
  intro W base args ds gs before hval0 hW hcnd _
  have hval : ∀ (j : Nat) t v, Try.f8.params[j]? = some t → args[j]? = some v → Value.okWide Try.prog W .any base t v := hval0
  have hW' := hW
  obtain ⟨p, q, hA0, hV, rfl, hfz, hnd⟩ := hW
  have hA : DataW.TrodAll enc Try.prog W 0 (fun _ => true) true Try.f8.params.toList args.toList ds p := hA0
  rw [Try.params8] at hA hval
  obtain ⟨v0, vs0, d0, ds0, p0, q0, hargs, rfl, rfl, h0, r0⟩ := trodAll_cons hA
  obtain ⟨v1, vs1, d1, ds1, p1, q1, rfl, rfl, rfl, h1, r1⟩ := trodAll_cons r0
  obtain ⟨rfl, rfl, rfl⟩ := trodAll_nil r1
  obtain rfl : args = #[v0, v1] := by cases args; simp_all
  obtain ⟨rfl, rfl⟩ := trodVars_none hV
  obtain ⟨a0, rfl, rfl, rfl, w0⟩ := open_int Try.underlying5 (hval 0 5 v0 rfl rfl) h0
  obtain ⟨a1, rfl, rfl, rfl, w1⟩ := open_int Try.underlying5 (hval 1 5 v1 rfl rfl) h1
  clear hA0 hval0
  simp only [List.append_nil] at hW'
  refine (walk a0 a1 w0 w1 W).mono fun e W' ⟨he, hg⟩ => ?_
  subst he
  exact ⟨_, rfl, post_of_same (pa := []) (pv := []) hW' (fun _ _ _ => (trodAll_cons_mk (shut_bool Try.underlying4 _) trodAll_mk0)) (fun sp _ => (trodAll_cons_mk (shut_int Try.underlying5 w0) (trodAll_cons_mk (shut_int Try.underlying5 w1) trodAll_mk0))) (fun _ _ => rfl) rfl
    (hg.frame _) hg.2.1 (ok_one (by kernel_rfl) rfl (okWide_bool_mk Try.underlying4 _))⟩

theorem over : Rows.fnKindStringNamesTellKindsApartRow.holds Try.pinned (OpenSpec.ofChange Rows.fnKindStringNamesTellKindsApartSpec) :=
  OpenClaim.holds_of_wide 8 Try.f8 rfl rfl rfl rfl rfl rfl rfl ⟨rfl, rfl, rfl, rfl, rfl⟩ rfl rfl rfl rfl rfl (by kernel_rfl) Try.func8 (by kernel_rfl)
    (of_decide_eq_true (by kernel_rfl)) (by unfold Func.isWrapper; first | (rw [if_pos (by decide +kernel)]; kernel_rfl) | (rw [if_neg (by decide +kernel)]; exact ⟨rfl, rfl⟩))
    (fun os started H enc _ => lifted os started H enc)

/-- ████ THE STATEMENT ████ -/
theorem proved : Rows.FnKindStringNamesTellKindsApartSaid :=
  over
end Go.Proofs.Qxb6619327a.fnKindStringNamesTellKindsApart
