import Derived.Test.Qxb6618368aRows
import Derived.Test.Qxb6618368aPlain
import Derived.WalkKit
import Derived.ProofKit
import Derived.OpenShut
import Derived.ShutString
import Derived.Lib.Strings
import Derived.Lib.Slices
import Derived.Lib.Walk
namespace Go.Proofs.Qxb6618368a.W
open Go.ChangeShapes Go.WideShapes Go.ChangeAt Go.RowKit
set_option linter.unusedVariables false

theorem hide {p : Prop} (h : p) : Hid p := h

/-! ### the closure 'stored' -/
set_option maxHeartbeats 400000 in
theorem stored_calls (s : ByteArray) (b : Nat) (nb pad : Int) (w : World) (hs : s.size ≤ 9223372036854775807) (h1 : w.cell? ⟨b, 1, none⟩ = some (.int .i64 nb)) (h2 : w.cell? ⟨b, 2, none⟩ = some (.int .i64 pad)) :
    Calls Try.prog 13 #[.string s, .pointer (some ⟨b, 0, none⟩)] w fun e w' => e = .returned (.int .i64 (Dif.sto nb pad s.size)) ∧ w' = w := by
  go_enter Try.func13, Try.ntmps13
  go_wp2
  go_ret
  exact ⟨rfl, rfl⟩

theorem stored_at (ch nb pad : Int) (hx : Bool) (s : ByteArray) (w : World) (hs : s.size ≤ 9223372036854775807) :
    Calls Try.prog 13 #[.string s, .pointer (some ⟨w.heap.size, 0, none⟩)] (w.alloc (.cells #[.int .i64 ch, .int .i64 nb, .int .i64 pad, .bool hx] 27)) fun e w' =>
      e = .returned (.int .i64 (Dif.sto nb pad s.size)) ∧ w' = w.alloc (.cells #[.int .i64 ch, .int .i64 nb, .int .i64 pad, .bool hx] 27) :=
  stored_calls s w.heap.size nb pad _ hs (by simp) (by simp)

/-! ### the closure 'at' -/
set_option maxHeartbeats 400000 in
theorem at_calls (s : ByteArray) (i : Nat) (w : World) :
    Calls Try.prog 14 #[.string s, .int .i64 i] w fun e w' => e = .returned (.int .u8 (Dif.atB s.data.toList i).toNat) ∧ w' = w := by
  by_cases h : i < s.size
  · have hx : Dif.atB s.data.toList i = s[i] := Dif.atB_in _ _ (by simpa using h)
    have Hx : Hid (Dif.atB s.data.toList i = s[i]) := hx
    clear hx
    go_enter Try.func14, Try.ntmps14
    go_wp2
    go_ret
    rw [Hx.out]
    exact ⟨rfl, rfl⟩
  · have hx : Dif.atB s.data.toList i = 32 := Dif.atB_past _ _ (by simpa using h)
    have Hx : Hid (Dif.atB s.data.toList i = 32) := hx
    clear hx
    go_enter Try.func14, Try.ntmps14
    go_wp2
    go_ret
    rw [Hx.out]
    exact ⟨rfl, rfl⟩

/-! ### the method 'differ' -/
set_option maxHeartbeats 1000000 in
theorem differ_calls (ch nb pad : Int) (hx : Bool) (a b : ByteArray) (w : World) (ha : a.size ≤ 524289) (hb : b.size ≤ 524289) (hp : pad ≤ 65536) :
    Calls Try.prog 9 #[.agg #[.int .i64 ch, .int .i64 nb, .int .i64 pad, .bool hx], .string a, .string b] w fun e w' => e = .returned (.bool (Dif.differ nb pad a.data.toList b.data.toList)) ∧ w' = w.alloc (.cells #[.int .i64 ch, .int .i64 nb, .int .i64 pad, .bool hx] 27) := by
  have ca := stored_at ch nb pad hx a w (by omega)
  have cb := stored_at ch nb pad hx b w (by omega)
  have la : a.data.toList.length = a.size := by simp
  have lb : b.data.toList.length = b.size := by simp
  have hd : Dif.differ nb pad a.data.toList b.data.toList = !(Dif.sto nb pad a.size == Dif.sto nb pad b.size && Dif.agr (Dif.sto nb pad a.size).toNat a.data.toList b.data.toList) := by
    unfold Dif.differ; rw [la, lb]
  have bd : Dif.sto nb pad a.size ≤ 524289 := by simp only [Dif.sto]; omega
  generalize Dif.sto nb pad a.size = na at *
  generalize Dif.sto nb pad b.size = nn at *
  rw [hd]
  clear hd la lb
  have Ca := hide ca
  have Cb := hide cb
  clear ca cb
  by_cases he : na = nn
  · subst he
    rw [show (na == na) = true from by simp, Bool.true_and]
    have hn : (na != na) = false := by simp
    generalize hv : Dif.agr na.toNat a.data.toList b.data.toList = v
    have Hv := hide hv
    clear hv
    go_enter Try.func9, Try.ntmps9
    go_wp2_with fail
    refine Ca.out.mono ?_
    rintro e w1 ⟨rfl, rfl⟩
    go_wp2_with fail
    refine Cb.out.mono ?_
    rintro e w1 ⟨rfl, rfl⟩
    go_wp2_with fail
    go_loop [21] (fun i => ∃ k : Nat, ((k : Int) ≤ na ∨ k = 0) ∧ i = .int .i64 k ∧ Hid (∀ j, j < k → Dif.atB a.data.toList j = Dif.atB b.data.toList j)) (fun i => (na - intOf i).toNat)
    case atStart => exact ⟨0, Or.inr rfl, rfl, fun j hj => absurd hj (Nat.not_lt_zero _)⟩
    case round =>
      obtain ⟨k, hk, rfl, hsame⟩ := hrel
      by_cases hlt : (k : Int) < na
      · clear hk
        obtain ⟨x, hxx⟩ : ∃ x : Int, x = ((Dif.atB a.data.toList k).toNat : Int) := ⟨_, rfl⟩
        obtain ⟨y, hyy⟩ : ∃ y : Int, y = ((Dif.atB b.data.toList k).toNat : Int) := ⟨_, rfl⟩
        have c1 := fun w => at_calls a k w
        have c2 := fun w => at_calls b k w
        rw [← hxx] at c1
        rw [← hyy] at c2
        have C1 := hide c1
        have C2 := hide c2
        have Hxx := hide hxx
        have Hyy := hide hyy
        clear c1 c2 hxx hyy
        by_cases hxy : x = y
        · have Hxy := hide hxy
          have hb0 : (x != y) = false := by simp [hxy]
          clear hxy
          go_wp2_with fail
          refine (C1.out _).mono ?_
          rintro e w1 ⟨rfl, rfl⟩
          go_wp2_with fail
          refine (C2.out _).mono ?_
          rintro e w1 ⟨rfl, rfl⟩
          go_wp2_with fail
          go_round
          case rel =>
            refine ⟨k + 1, Or.inl (by omega), by go_num, ?_⟩
            intro j hj
            by_cases hjk : j < k
            · exact hsame.out j hjk
            · have : j = k := by omega
              subst this
              have e1 := Hxy.out
              rw [Hxx.out, Hyy.out] at e1
              exact UInt8.toNat_inj.1 (by omega)
          case measure => simp [intOf]; omega
        · have Hxy := hide hxy
          have hb0 : (x != y) = true := by simp [hxy]
          clear hxy
          go_wp2_with fail
          refine (C1.out _).mono ?_
          rintro e w1 ⟨rfl, rfl⟩
          go_wp2_with fail
          refine (C2.out _).mono ?_
          rintro e w1 ⟨rfl, rfl⟩
          go_wp2_with fail
          go_ret
          have hvf : v = false := by
            rw [← Hv.out, Bool.eq_false_iff]
            intro h
            have := (Dif.agr_true _ _ _).1 h k (by omega)
            exact Hxy.out (by rw [Hxx.out, Hyy.out, this])
          rw [hvf]
          exact ⟨rfl, rfl⟩
      · go_wp2_with fail
        go_ret
        have hvt : v = true := by
          rw [← Hv.out, Dif.agr_true]
          intro j hj
          exact hsame.out j (by omega)
        rw [hvt]
        exact ⟨rfl, rfl⟩
  · have hn : (na != nn) = true := by simp [he]
    rw [show (na == nn) = false from by simp [he], Bool.false_and]
    go_enter Try.func9, Try.ntmps9
    go_wp2_with fail
    refine Ca.out.mono ?_
    rintro e w1 ⟨rfl, rfl⟩
    go_wp2_with fail
    refine Cb.out.mono ?_
    rintro e w1 ⟨rfl, rfl⟩
    go_wp2_with fail
    go_ret
    exact ⟨rfl, rfl⟩

set_option maxHeartbeats 400000 in
/-- ZZPrefixDiffer: it returns 'Dif.differ'; the world has one new block. -/
theorem zz_calls (ch nb pad : Int) (hx : Bool) (a b : ByteArray) (w : World) (ha : a.size ≤ 524289) (hb : b.size ≤ 524289) (hp : pad ≤ 65536) :
    Calls Try.prog 6 #[.int .i64 ch, .int .i64 nb, .int .i64 pad, .bool hx, .string a, .string b] w fun e w' => e = .returned (.bool (Dif.differ nb pad a.data.toList b.data.toList)) ∧ Grown w w' := by
  have c := fun w => differ_calls ch nb pad hx a b w ha hb hp
  generalize Dif.differ nb pad a.data.toList b.data.toList = r at *
  have C := hide c
  clear c
  go_enter Try.func6, Try.ntmps6
  go_wp2_with fail
  refine (C.out _).mono ?_
  rintro e w1 ⟨rfl, rfl⟩
  go_wp2_with fail
  go_ret
  exact ⟨rfl, (Grown.refl _).alloc _ _⟩
end Go.Proofs.Qxb6618368a.W
