import Derived.Test.Qxb6618368aWalksE
import Derived.WalkKit
import Derived.ProofKit
import Derived.OpenShut
import Derived.ShutString
namespace Go.Proofs.Qxb6618368a.fnDifferIsAnEquivalenceAndSeesOneMoreByte
open Go.ChangeShapes Go.WideShapes Go.ChangeAt Go.RowKit
open Go.ChangeMaps (open_string shut_string)
set_option linter.unusedVariables false      -- a walk need not use every 'w<i>' (that an integer argument fits its kind)

theorem own : ownKnob Try.prog.godebug = none := by kernel_rfl

open W in
set_option maxHeartbeats 1000000 in
theorem walk (a0 : Int) (a1 : Int) (a2 : Int) (a3 : Bool) (a4 : ByteArray) (a5 : ByteArray) (a6 : ByteArray) (a7 : Int) (w0 : (Lit.int .i64 a0).wf = true) (w1 : (Lit.int .i64 a1).wf = true) (w2 : (Lit.int .i64 a2).wf = true) (w4 : a4.size ≤ maxLen) (w5 : a5.size ≤ maxLen) (w6 : a6.size ≤ maxLen) (w7 : (Lit.int .u8 a7).wf = true) (w : World) :
    Calls Try.prog 4 #[.int .i64 a0, .int .i64 a1, .int .i64 a2, .bool a3, .string a4, .string a5, .string a6, .int .u8 a7] w fun e w' => e = .returned (.bool true) ∧ Grown w w' := by
  unfold maxLen at w4 w5 w6
  have hz : 0 ≤ a7 ∧ a7 ≤ 255 := bounds_u8 w7
  by_cases hsum : a4.size + a5.size + a6.size ≤ 1048576
  · have cy := fun w => bytes8_yes a0 a1 a2 a3 a4 a5 a6 a7 w hsum
    have Cy := hide cy
    clear cy
    by_cases hA : 262144 < a4.size
    · go_enter Try.func4, Try.ntmps4
      go_wp2_with fail
      refine (Cy.out _).mono ?_
      rintro e w1 ⟨rfl, rfl⟩
      go_wp2_with fail
      go_ret
      exact ⟨rfl, Grown.refl _⟩
    · by_cases hB : 262144 < a5.size
      · go_enter Try.func4, Try.ntmps4
        go_wp2_with fail
        refine (Cy.out _).mono ?_
        rintro e w1 ⟨rfl, rfl⟩
        go_wp2_with fail
        go_ret
        exact ⟨rfl, Grown.refl _⟩
      · by_cases hC : 262144 < a6.size
        · go_enter Try.func4, Try.ntmps4
          go_wp2_with fail
          refine (Cy.out _).mono ?_
          rintro e w1 ⟨rfl, rfl⟩
          go_wp2_with fail
          go_ret
          exact ⟨rfl, Grown.refl _⟩
        · by_cases hP : 65536 < a2
          · go_enter Try.func4, Try.ntmps4
            go_wp2_with fail
            refine (Cy.out _).mono ?_
            rintro e w1 ⟨rfl, rfl⟩
            go_wp2_with fail
            go_ret
            exact ⟨rfl, Grown.refl _⟩
          · have cab := fun w => zz_calls a0 a1 a2 a3 a4 a5 w (by omega) (by omega) (by omega)
            have cba := fun w => zz_calls a0 a1 a2 a3 a5 a4 w (by omega) (by omega) (by omega)
            have caa := fun w => zz_calls a0 a1 a2 a3 a4 a4 w (by omega) (by omega) (by omega)
            have cbc := fun w => zz_calls a0 a1 a2 a3 a5 a6 w (by omega) (by omega) (by omega)
            have cac := fun w => zz_calls a0 a1 a2 a3 a4 a6 w (by omega) (by omega) (by omega)
            have cex := fun w => zz_calls a0 a1 a2 a3 a4 ⟨(a4.data.toList ++ [UInt8.ofNat a7.toNat]).toArray⟩ w (by omega) (by show (a4.data.toList ++ [UInt8.ofNat a7.toNat]).toArray.size ≤ _; simp; omega) (by omega)
            rw [Dif.differ_comm] at cba
            rw [Dif.differ_self] at caa
            have l4 : a4.data.toList.length = a4.size := by simp
            have e8 : (⟨(a4.data.toList ++ [UInt8.ofNat a7.toNat]).toArray⟩ : ByteArray).data.toList = a4.data.toList ++ [UInt8.ofNat a7.toNat] := rfl
            rw [e8, Dif.differ_grown, l4] at cex
            have hzb : a7 = ((UInt8.ofNat a7.toNat).toNat : Int) := by
              rw [UInt8.toNat_ofNat']
              omega
            exact eqv_main a0 a1 a2 a3 a4 a5 a6 a7 (UInt8.ofNat a7.toNat) _ _ _ _ w (by omega) (by omega) (by omega) (by omega) hsum (hide hzb) (hide cab) (hide cba) (hide caa) (hide cbc) (hide cac) (hide cex) (hide rfl)
              (hide fun h1 h2 => Dif.differ_trans a1 a2 _ _ _ h1 h2)
  · have cn := fun w => bytes8_no a0 a1 a2 a3 a4 a5 a6 a7 w (by omega) (by omega) (by omega) (by omega)
    have Cn := hide cn
    clear cn
    go_enter Try.func4, Try.ntmps4
    go_wp2_with fail
    refine (Cn.out _).mono ?_
    rintro e w1 ⟨rfl, rfl⟩
    go_wp2_with fail
    go_ret
    exact ⟨rfl, Grown.refl _⟩

/-! ### THE ROW's STEP: WRITTEN OUT: LEAVE IT -/
set_option maxRecDepth 100000 in
theorem lifted (os : Os) (started : os.Started) (H : Type) (enc : TypeId × Value → H) :
    ReturnsInHanded {} Try.checked os 4 .any (Rows.fnDifferIsAnEquivalenceAndSeesOneMoreByteSpec.pre6 enc Try.prog Try.f4 Rows.fnDifferIsAnEquivalenceAndSeesOneMoreByteRow.domain false) (Rows.fnDifferIsAnEquivalenceAndSeesOneMoreByteSpec.post enc Try.prog Try.f4 false true false false) := by
  refine returnsInHanded_of_change (C := Try.checked) own started (by kernel_rfl) Try.func4
    (ChangeSpec.witness6 (enc := enc) (C := Try.checked) false ⟨#[], #[.int .i64 0, .int .i64 0, .int .i64 0, .bool false, .string ByteArray.empty, .string ByteArray.empty, .string ByteArray.empty, .int .u8 0], []⟩ 8 (by kernel_rfl) (by kernel_rfl) (by kernel_rfl) (by kernel_rfl)) ?_
  intro W base args ds gs before hval0 hW hcnd _
  have hval : ∀ (j : Nat) t v, Try.f4.params[j]? = some t → args[j]? = some v → Value.okWide Try.prog W .any base t v := hval0
  have hW' := hW
  obtain ⟨p, q, hA0, hV, rfl, hfz, hnd⟩ := hW
  have hA : DataW.TrodAll enc Try.prog W 0 (fun _ => true) true Try.f4.params.toList args.toList ds p := hA0
  rw [Try.params4] at hA hval
  obtain ⟨v0, vs0, d0, ds0, p0, q0, hargs, rfl, rfl, h0, r0⟩ := trodAll_cons hA
  obtain ⟨v1, vs1, d1, ds1, p1, q1, rfl, rfl, rfl, h1, r1⟩ := trodAll_cons r0
  obtain ⟨v2, vs2, d2, ds2, p2, q2, rfl, rfl, rfl, h2, r2⟩ := trodAll_cons r1
  obtain ⟨v3, vs3, d3, ds3, p3, q3, rfl, rfl, rfl, h3, r3⟩ := trodAll_cons r2
  obtain ⟨v4, vs4, d4, ds4, p4, q4, rfl, rfl, rfl, h4, r4⟩ := trodAll_cons r3
  obtain ⟨v5, vs5, d5, ds5, p5, q5, rfl, rfl, rfl, h5, r5⟩ := trodAll_cons r4
  obtain ⟨v6, vs6, d6, ds6, p6, q6, rfl, rfl, rfl, h6, r6⟩ := trodAll_cons r5
  obtain ⟨v7, vs7, d7, ds7, p7, q7, rfl, rfl, rfl, h7, r7⟩ := trodAll_cons r6
  obtain ⟨rfl, rfl, rfl⟩ := trodAll_nil r7
  obtain rfl : args = #[v0, v1, v2, v3, v4, v5, v6, v7] := by cases args; simp_all
  obtain ⟨rfl, rfl⟩ := trodVars_none hV
  obtain ⟨a0, rfl, rfl, rfl, w0⟩ := open_int Try.underlying3 (hval 0 3 v0 rfl rfl) h0
  obtain ⟨a1, rfl, rfl, rfl, w1⟩ := open_int Try.underlying3 (hval 1 3 v1 rfl rfl) h1
  obtain ⟨a2, rfl, rfl, rfl, w2⟩ := open_int Try.underlying3 (hval 2 3 v2 rfl rfl) h2
  obtain ⟨a3, rfl, rfl, rfl⟩ := open_bool Try.underlying4 (hval 3 4 v3 rfl rfl) h3
  obtain ⟨a4, rfl, rfl, rfl, w4⟩ := open_string Try.underlying9 (hval 4 9 v4 rfl rfl) h4
  obtain ⟨a5, rfl, rfl, rfl, w5⟩ := open_string Try.underlying9 (hval 5 9 v5 rfl rfl) h5
  obtain ⟨a6, rfl, rfl, rfl, w6⟩ := open_string Try.underlying9 (hval 6 9 v6 rfl rfl) h6
  obtain ⟨a7, rfl, rfl, rfl, w7⟩ := open_int Try.underlying5 (hval 7 5 v7 rfl rfl) h7
  clear hA0 hval0
  simp only [List.append_nil] at hW'
  refine (walk a0 a1 a2 a3 a4 a5 a6 a7 w0 w1 w2 w4 w5 w6 w7 W).mono fun e W' ⟨he, hg⟩ => ?_
  subst he
  exact ⟨_, rfl, post_of_same (pa := []) (pv := []) hW' (fun _ _ _ => (trodAll_cons_mk (shut_bool Try.underlying4 _) trodAll_mk0)) (fun sp _ => (trodAll_cons_mk (shut_int Try.underlying3 w0) (trodAll_cons_mk (shut_int Try.underlying3 w1) (trodAll_cons_mk (shut_int Try.underlying3 w2) (trodAll_cons_mk (shut_bool Try.underlying4 _) (trodAll_cons_mk (shut_string Try.underlying9 w4) (trodAll_cons_mk (shut_string Try.underlying9 w5) (trodAll_cons_mk (shut_string Try.underlying9 w6) (trodAll_cons_mk (shut_int Try.underlying5 w7) trodAll_mk0))))))))) (fun _ _ => rfl) rfl
    (hg.frame _) hg.2.1 (ok_one (by kernel_rfl) rfl (okWide_bool_mk Try.underlying4 _))⟩

theorem over : Rows.fnDifferIsAnEquivalenceAndSeesOneMoreByteRow.holds Try.pinned (OpenSpec.ofChange Rows.fnDifferIsAnEquivalenceAndSeesOneMoreByteSpec) :=
  OpenClaim.holds_of_wide 4 Try.f4 rfl rfl rfl rfl rfl rfl rfl ⟨rfl, rfl, rfl, rfl, rfl⟩ rfl rfl rfl rfl rfl (by kernel_rfl) Try.func4 (by kernel_rfl)
    (of_decide_eq_true (by kernel_rfl)) (by unfold Func.isWrapper; first | (rw [if_pos (by decide +kernel)]; kernel_rfl) | (rw [if_neg (by decide +kernel)]; exact ⟨rfl, rfl⟩))
    (fun os started H enc _ => lifted os started H enc)

/-- ████ THE STATEMENT ████ -/
theorem proved : Rows.FnDifferIsAnEquivalenceAndSeesOneMoreByteSaid :=
  over
end Go.Proofs.Qxb6618368a.fnDifferIsAnEquivalenceAndSeesOneMoreByte
