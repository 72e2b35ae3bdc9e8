import Derived.Test.Qxb6618368aWalksB
namespace Go.Proofs.Qxb6618368a.W
open Go.ChangeShapes Go.WideShapes Go.ChangeAt Go.RowKit
set_option linter.unusedVariables false

theorem spread_eq (x y : ByteArray) : Dif.spread x.data.toList y.data.toList = ((y.extract 0 x.size).toList == x.toList && ((y.extract x.size y.size).data.toList.all fun u => u == 32)) := by
  rw [Lib.extract_toList, Lib.extract_data, Lib.toList_data]
  unfold Dif.spread
  have lx : x.data.toList.length = x.size := by simp
  have ly : y.data.toList.length = y.size := by simp
  rw [List.take_of_length_le (l := List.drop x.size y.data.toList) (by simp), lx]
  simp

theorem cont_size (nb : Int) (s : ByteArray) : (⟨(Dif.cont nb s.data.toList).toArray⟩ : ByteArray).size ≤ s.size := by
  show (Dif.cont nb s.data.toList).toArray.size ≤ s.size
  rw [List.size_toArray]
  unfold Dif.cont
  have h := List.length_take_le' nb.toNat s.data.toList
  have ls : s.data.toList.length = s.size := by simp
  omega

/-- storedFormsEqual from the two lengths and the two contents on -/
def eqFrom (la lb : Int) (x y : ByteArray) : Bool := la == lb && (if y.size < x.size then Dif.spread y.data.toList x.data.toList else Dif.spread x.data.toList y.data.toList)

theorem formsEq_from (nb pad : Int) (a b : List UInt8) : Dif.formsEq nb pad a b = eqFrom (Dif.slen nb pad a) (Dif.slen nb pad b) ⟨(Dif.cont nb a).toArray⟩ ⟨(Dif.cont nb b).toArray⟩ := by
  have e : ∀ l : List UInt8, (⟨l.toArray⟩ : ByteArray).size = l.length := fun l => by simp [ByteArray.size]
  unfold Dif.formsEq eqFrom
  rw [e, e]

set_option maxHeartbeats 1000000 in
theorem formsEq_calls (nb pad : Int) (a b : ByteArray) (w : World) (ha : a.size ≤ 524288) (hb : b.size ≤ 524288) :
    Calls Try.prog 7 #[.int .i64 nb, .int .i64 pad, .string a, .string b] w fun e w' => e = .returned (.bool (Dif.formsEq nb pad a.data.toList b.data.toList)) ∧ w' = w := by
  rw [formsEq_from]
  have ca := fun w => content_calls nb a w
  have cb := fun w => content_calls nb b w
  have sa := fun w => length_calls nb pad a w
  have sb := fun w => length_calls nb pad b w
  have hxl : (⟨(Dif.cont nb a.data.toList).toArray⟩ : ByteArray).size ≤ 524288 := Nat.le_trans (cont_size nb a) ha
  have hyl : (⟨(Dif.cont nb b.data.toList).toArray⟩ : ByteArray).size ≤ 524288 := Nat.le_trans (cont_size nb b) hb
  generalize (⟨(Dif.cont nb a.data.toList).toArray⟩ : ByteArray) = x at *
  generalize (⟨(Dif.cont nb b.data.toList).toArray⟩ : ByteArray) = y at *
  generalize Dif.slen nb pad a.data.toList = la at *
  generalize Dif.slen nb pad b.data.toList = lb at *
  have Ca := hide ca
  have Cb := hide cb
  have Sa := hide sa
  have Sb := hide sb
  clear ca cb sa sb
  by_cases hl : la = lb
  · have hl0 : (la != lb) = false := by simp [hl]
    have hl1 : (la == lb) = true := by simp [hl]
    unfold eqFrom
    rw [hl1, Bool.true_and]
    clear hl hl1
    by_cases hs : y.size < x.size
    · rw [if_pos hs, spread_eq]
      have cs := fun w => spaces_calls (x.extract y.size x.size) w (by simp; omega)
      generalize ((x.extract y.size x.size).data.toList.all fun u => u == 32) = v at *
      have Cs := hide cs
      clear cs
      cases ht : ((x.extract 0 y.size).toList == y.toList)
      · rw [Bool.false_and]
        go_enter Try.func7, Try.ntmps7
        go_wp2_with fail
        refine (Sa.out _).mono ?_
        rintro e w1 ⟨rfl, rfl⟩
        go_wp2_with fail
        refine (Sb.out _).mono ?_
        rintro e w1 ⟨rfl, rfl⟩
        go_wp2_with fail
        refine (Ca.out _).mono ?_
        rintro e w1 ⟨rfl, rfl⟩
        go_wp2_with fail
        refine (Cb.out _).mono ?_
        rintro e w1 ⟨rfl, rfl⟩
        go_wp2_with fail
        go_ret
        exact ⟨rfl, rfl⟩
      · rw [Bool.true_and]
        go_enter Try.func7, Try.ntmps7
        go_wp2_with fail
        refine (Sa.out _).mono ?_
        rintro e w1 ⟨rfl, rfl⟩
        go_wp2_with fail
        refine (Sb.out _).mono ?_
        rintro e w1 ⟨rfl, rfl⟩
        go_wp2_with fail
        refine (Ca.out _).mono ?_
        rintro e w1 ⟨rfl, rfl⟩
        go_wp2_with fail
        refine (Cb.out _).mono ?_
        rintro e w1 ⟨rfl, rfl⟩
        go_wp2_with fail
        refine (Cs.out _).mono ?_
        rintro e w1 ⟨rfl, rfl⟩
        go_wp2_with fail
        go_ret
        exact ⟨rfl, rfl⟩
    · rw [if_neg hs, spread_eq]
      have cs := fun w => spaces_calls (y.extract x.size y.size) w (by simp; omega)
      generalize ((y.extract x.size y.size).data.toList.all fun u => u == 32) = v at *
      have Cs := hide cs
      clear cs
      cases ht : ((y.extract 0 x.size).toList == x.toList)
      · rw [Bool.false_and]
        go_enter Try.func7, Try.ntmps7
        go_wp2_with fail
        refine (Sa.out _).mono ?_
        rintro e w1 ⟨rfl, rfl⟩
        go_wp2_with fail
        refine (Sb.out _).mono ?_
        rintro e w1 ⟨rfl, rfl⟩
        go_wp2_with fail
        refine (Ca.out _).mono ?_
        rintro e w1 ⟨rfl, rfl⟩
        go_wp2_with fail
        refine (Cb.out _).mono ?_
        rintro e w1 ⟨rfl, rfl⟩
        go_wp2_with fail
        go_ret
        exact ⟨rfl, rfl⟩
      · rw [Bool.true_and]
        go_enter Try.func7, Try.ntmps7
        go_wp2_with fail
        refine (Sa.out _).mono ?_
        rintro e w1 ⟨rfl, rfl⟩
        go_wp2_with fail
        refine (Sb.out _).mono ?_
        rintro e w1 ⟨rfl, rfl⟩
        go_wp2_with fail
        refine (Ca.out _).mono ?_
        rintro e w1 ⟨rfl, rfl⟩
        go_wp2_with fail
        refine (Cb.out _).mono ?_
        rintro e w1 ⟨rfl, rfl⟩
        go_wp2_with fail
        refine (Cs.out _).mono ?_
        rintro e w1 ⟨rfl, rfl⟩
        go_wp2_with fail
        go_ret
        exact ⟨rfl, rfl⟩
  · have hl0 : (la != lb) = true := by simp [hl]
    have hl1 : (la == lb) = false := by simp [hl]
    unfold eqFrom
    rw [hl1, Bool.false_and]
    clear hl hl1
    go_enter Try.func7, Try.ntmps7
    go_wp2_with fail
    refine (Sa.out _).mono ?_
    rintro e w1 ⟨rfl, rfl⟩
    go_wp2_with fail
    refine (Sb.out _).mono ?_
    rintro e w1 ⟨rfl, rfl⟩
    go_wp2_with fail
    go_ret
    exact ⟨rfl, rfl⟩
end Go.Proofs.Qxb6618368a.W
