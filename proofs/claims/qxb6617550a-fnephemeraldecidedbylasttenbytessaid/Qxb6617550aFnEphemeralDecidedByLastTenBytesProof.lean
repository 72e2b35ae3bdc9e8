import Derived.Test.Qxb6617550aWalksA
import Derived.WalkKit
import Derived.ProofKit
import Derived.OpenShut
import Derived.ShutString
namespace Go.Proofs.Qxb6617550a.fnEphemeralDecidedByLastTenBytes
open Go.ChangeShapes Go.WideShapes Go.ChangeAt Go.RowKit
open Go.ChangeMaps (open_string shut_string)
set_option linter.unusedVariables false      -- a walk need not use every 'w<i>' (that an integer argument fits its kind)

theorem own : ownKnob Try.prog.godebug = none := by kernel_rfl

theorem hide {p : Prop} (h : p) : Hid p := h

/-! ### The calls of Ephemeral as the law makes them -/
theorem eph_tagged (a : ByteArray) (w : World) (ha : a.size ≤ 524288) :
    Calls Try.prog 5 #[.string (a ++ { data := #[35, 101, 112, 104, 101, 109, 101, 114, 97, 108] })] w fun e w' => e = .returned (.bool true) ∧ w' = w := by
  refine (eph_calls _ w (by rw [ByteArray.size_append]; show a.size + 10 ≤ _; omega)).mono ?_
  rintro e w' ⟨rfl, rfl⟩
  refine ⟨?_, rfl⟩
  have := Eph.eph_tag a.data.toList
  rw [ByteArray.data_append, Array.toList_append]
  exact congrArg (fun x => Ending.returned (Value.bool x)) this

theorem eph_tagged_grown (a b : ByteArray) (w : World) (ha : a.size ≤ 524288) (h1 : 1 ≤ b.size) (h9 : b.size < 10) :
    Calls Try.prog 5 #[.string (a ++ { data := #[35, 101, 112, 104, 101, 109, 101, 114, 97, 108] } ++ b)] w fun e w' => e = .returned (.bool false) ∧ w' = w := by
  refine (eph_calls _ w (by rw [ByteArray.size_append, ByteArray.size_append]; show a.size + 10 + b.size ≤ _; omega)).mono ?_
  rintro e w' ⟨rfl, rfl⟩
  refine ⟨?_, rfl⟩
  have := Eph.eph_grown a.data.toList b.data.toList (by simpa using h1) (by simp; omega)
  rw [ByteArray.data_append, Array.toList_append, ByteArray.data_append, Array.toList_append]
  exact congrArg (fun x => Ending.returned (Value.bool x)) this

theorem eph_few (b : ByteArray) (w : World) (h9 : b.size < 10) :
    Calls Try.prog 5 #[.string b] w fun e w' => e = .returned (.bool false) ∧ w' = w := by
  refine (eph_calls _ w (by omega)).mono ?_
  rintro e w' ⟨rfl, rfl⟩
  refine ⟨?_, rfl⟩
  have := Eph.eph_short b.data.toList (by simpa using h9)
  rw [this]

theorem eph_joined (a b : ByteArray) (w : World) (ha : a.size ≤ 524288) (hb : b.size ≤ 524288) (h10 : 10 ≤ b.size) :
    Calls Try.prog 5 #[.string (a ++ b)] w fun e w' => e = .returned (.bool (Eph.eph b.data.toList)) ∧ w' = w := by
  refine (eph_calls _ w (by rw [ByteArray.size_append]; omega)).mono ?_
  rintro e w' ⟨rfl, rfl⟩
  refine ⟨?_, rfl⟩
  have := Eph.eph_long a.data.toList b.data.toList (by simpa using h10)
  rw [ByteArray.data_append, Array.toList_append, this]

/-! ### The walk: the Go text returns true -/
set_option maxHeartbeats 1000000 in
theorem walk (a0 : ByteArray) (a1 : ByteArray) (w0 : a0.size ≤ maxLen) (w1 : a1.size ≤ maxLen) (w : World) :
    Calls Try.prog 3 #[.string a0, .string a1] w fun e w' => e = .returned (.bool true) ∧ Grown w w' := by
  unfold maxLen at w0 w1
  by_cases hsum : a0.size + a1.size ≤ 1048576
  · by_cases hA : 524288 < a0.size
    · go_enter Try.func3, Try.ntmps3
      go_wp2_with (go_at_call 4; refine (bytes_yes _ _ _ hsum).mono ?_; rintro e w' ⟨rfl, rfl⟩)
      go_ret
      exact ⟨rfl, Grown.refl _⟩
    · by_cases hB : 524288 < a1.size
      · go_enter Try.func3, Try.ntmps3
        go_wp2_with (go_at_call 4; refine (bytes_yes _ _ _ hsum).mono ?_; rintro e w' ⟨rfl, rfl⟩)
        go_ret
        exact ⟨rfl, Grown.refl _⟩
      · have hA' : a0.size ≤ 524288 := by omega
        have hB' : a1.size ≤ 524288 := by omega
        by_cases h10 : a1.size < 10
        · by_cases h0 : 1 ≤ a1.size
          · go_enter Try.func3, Try.ntmps3
            go_wp2_with (go_at_call 4; refine (bytes_yes _ _ _ hsum).mono ?_; rintro e w' ⟨rfl, rfl⟩)
            refine (eph_tagged _ _ hA').mono ?_
            rintro e w1 ⟨rfl, rfl⟩
            go_wp2_with fail
            refine (eph_tagged_grown _ _ _ hA' h0 h10).mono ?_
            rintro e w1 ⟨rfl, rfl⟩
            go_wp2_with fail
            refine (eph_few _ _ h10).mono ?_
            rintro e w1 ⟨rfl, rfl⟩
            go_wp2_with fail
            go_ret
            exact ⟨rfl, Grown.refl _⟩
          · go_enter Try.func3, Try.ntmps3
            go_wp2_with (go_at_call 4; refine (bytes_yes _ _ _ hsum).mono ?_; rintro e w' ⟨rfl, rfl⟩)
            refine (eph_tagged _ _ hA').mono ?_
            rintro e w1 ⟨rfl, rfl⟩
            go_wp2_with fail
            refine (eph_few _ _ h10).mono ?_
            rintro e w1 ⟨rfl, rfl⟩
            go_wp2_with fail
            go_ret
            exact ⟨rfl, Grown.refl _⟩
        · have h10' : 10 ≤ a1.size := by omega
          have he := fun w => eph_calls a1 w w1
          generalize hx : Eph.eph a1.data.toList = x at he
          have hj := fun w => eph_joined a0 a1 w hA' hB' h10'
          rw [hx] at hj
          have He := hide he
          have Hj := hide hj
          clear hx he hj
          go_enter Try.func3, Try.ntmps3
          go_wp2_with (go_at_call 4; refine (bytes_yes _ _ _ hsum).mono ?_; rintro e w' ⟨rfl, rfl⟩)
          refine (eph_tagged _ _ hA').mono ?_
          rintro e w1 ⟨rfl, rfl⟩
          go_wp2_with fail
          refine (Hj.out _).mono ?_
          rintro e w1 ⟨rfl, rfl⟩
          go_wp2_with fail
          refine (He.out _).mono ?_
          rintro e w1 ⟨rfl, rfl⟩
          go_wp2_with fail
          go_ret
          exact ⟨rfl, Grown.refl _⟩
  · go_enter Try.func3, Try.ntmps3
    go_wp2_with (go_at_call 4; refine (bytes_no _ _ _ w0 w1 (by omega)).mono ?_; rintro e w' ⟨rfl, rfl⟩)
    go_ret
    exact ⟨rfl, Grown.refl _⟩

/-! ### THE ROW's STEP: WRITTEN OUT: LEAVE IT -/
set_option maxRecDepth 100000 in
theorem lifted (os : Os) (started : os.Started) (H : Type) (enc : TypeId × Value → H) :
    ReturnsInHanded {} Try.checked os 3 .any (Rows.fnEphemeralDecidedByLastTenBytesSpec.pre6 enc Try.prog Try.f3 Rows.fnEphemeralDecidedByLastTenBytesRow.domain false) (Rows.fnEphemeralDecidedByLastTenBytesSpec.post enc Try.prog Try.f3 false true false false) := by
  refine returnsInHanded_of_change (C := Try.checked) own started (by kernel_rfl) Try.func3
    (ChangeSpec.witness6 (enc := enc) (C := Try.checked) false ⟨#[], #[.string ByteArray.empty, .string ByteArray.empty], []⟩ 8 (by kernel_rfl) (by kernel_rfl) (by kernel_rfl) (by kernel_rfl)) ?_
  intro W base args ds gs before hval0 hW hcnd _
  have hval : ∀ (j : Nat) t v, Try.f3.params[j]? = some t → args[j]? = some v → Value.okWide Try.prog W .any base t v := hval0
  have hW' := hW
  obtain ⟨p, q, hA0, hV, rfl, hfz, hnd⟩ := hW
  have hA : DataW.TrodAll enc Try.prog W 0 (fun _ => true) true Try.f3.params.toList args.toList ds p := hA0
  rw [Try.params3] at hA hval
  obtain ⟨v0, vs0, d0, ds0, p0, q0, hargs, rfl, rfl, h0, r0⟩ := trodAll_cons hA
  obtain ⟨v1, vs1, d1, ds1, p1, q1, rfl, rfl, rfl, h1, r1⟩ := trodAll_cons r0
  obtain ⟨rfl, rfl, rfl⟩ := trodAll_nil r1
  obtain rfl : args = #[v0, v1] := by cases args; simp_all
  obtain ⟨rfl, rfl⟩ := trodVars_none hV
  obtain ⟨a0, rfl, rfl, rfl, w0⟩ := open_string Try.underlying9 (hval 0 9 v0 rfl rfl) h0
  obtain ⟨a1, rfl, rfl, rfl, w1⟩ := open_string Try.underlying9 (hval 1 9 v1 rfl rfl) h1
  clear hA0 hval0
  simp only [List.append_nil] at hW'
  refine (walk a0 a1 w0 w1 W).mono fun e W' ⟨he, hg⟩ => ?_
  subst he
  exact ⟨_, rfl, post_of_same (pa := []) (pv := []) hW' (fun _ _ _ => (trodAll_cons_mk (shut_bool Try.underlying4 _) trodAll_mk0)) (fun sp _ => (trodAll_cons_mk (shut_string Try.underlying9 w0) (trodAll_cons_mk (shut_string Try.underlying9 w1) trodAll_mk0))) (fun _ _ => rfl) rfl
    (hg.frame _) hg.2.1 (ok_one (by kernel_rfl) rfl (okWide_bool_mk Try.underlying4 _))⟩

theorem over : Rows.fnEphemeralDecidedByLastTenBytesRow.holds Try.pinned (OpenSpec.ofChange Rows.fnEphemeralDecidedByLastTenBytesSpec) :=
  OpenClaim.holds_of_wide 3 Try.f3 rfl rfl rfl rfl rfl rfl rfl ⟨rfl, rfl, rfl, rfl, rfl⟩ rfl rfl rfl rfl rfl (by kernel_rfl) Try.func3 (by kernel_rfl)
    (of_decide_eq_true (by kernel_rfl)) (by unfold Func.isWrapper; first | (rw [if_pos (by decide +kernel)]; kernel_rfl) | (rw [if_neg (by decide +kernel)]; exact ⟨rfl, rfl⟩))
    (fun os started H enc _ => lifted os started H enc)

/-- ████ THE STATEMENT ████ -/
theorem proved : Rows.FnEphemeralDecidedByLastTenBytesSaid :=
  over
end Go.Proofs.Qxb6617550a.fnEphemeralDecidedByLastTenBytes
