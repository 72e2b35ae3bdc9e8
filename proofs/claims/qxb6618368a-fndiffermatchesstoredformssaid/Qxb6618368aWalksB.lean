import Derived.Test.Qxb6618368aWalksA
namespace Go.Proofs.Qxb6618368a.W
open Go.ChangeShapes Go.WideShapes Go.ChangeAt Go.RowKit
set_option linter.unusedVariables false

/-! ### the bound on the total length -/
set_option maxHeartbeats 400000 in
theorem bytes5_yes (ch nb pad : Int) (hx : Bool) (a b : ByteArray) (w : World) (h : a.size + b.size ≤ 1048576) :
    Calls Try.prog 5 #[.int .i64 ch, .int .i64 nb, .int .i64 pad, .bool hx, .string a, .string b] w fun e w' => e = .returned (.bool true) ∧ w' = w := by
  go_enter Try.func5, Try.ntmps5
  go_wp2
  go_ret
  exact ⟨rfl, rfl⟩

set_option maxHeartbeats 400000 in
theorem bytes5_no (ch nb pad : Int) (hx : Bool) (a b : ByteArray) (w : World) (ha : a.size ≤ 9223372036854775807) (hb : b.size ≤ 9223372036854775807) (h : 1048576 < a.size + b.size) :
    Calls Try.prog 5 #[.int .i64 ch, .int .i64 nb, .int .i64 pad, .bool hx, .string a, .string b] w fun e w' => e = .returned (.bool false) ∧ w' = w := by
  by_cases h1 : 1048576 < a.size
  · go_enter Try.func5, Try.ntmps5
    go_wp2
    go_ret
    exact ⟨rfl, rfl⟩
  · by_cases h2 : 1048576 < b.size
    · go_enter Try.func5, Try.ntmps5
      go_wp2
      go_ret
      exact ⟨rfl, rfl⟩
    · go_enter Try.func5, Try.ntmps5
      go_wp2
      go_ret
      exact ⟨rfl, rfl⟩

/-! ### storedContent -/
theorem cont_none (nb : Int) (s : ByteArray) (h : nb ≤ 0) : (⟨(Dif.cont nb s.data.toList).toArray⟩ : ByteArray) = { data := #[] } := by
  have : nb.toNat = 0 := by omega
  simp [Dif.cont, this]
theorem cont_cut (n : Nat) (s : ByteArray) : (⟨(Dif.cont (n : Int) s.data.toList).toArray⟩ : ByteArray) = s.extract 0 n := by
  rw [Lib.extract_eq]; simp [Dif.cont]
theorem cont_all (nb : Int) (s : ByteArray) (h : (s.size : Int) ≤ nb) : (⟨(Dif.cont nb s.data.toList).toArray⟩ : ByteArray) = s := by
  have : s.data.toList.length ≤ nb.toNat := by simp; omega
  unfold Dif.cont
  rw [List.take_of_length_le this]

set_option maxHeartbeats 400000 in
theorem content_calls (nb : Int) (s : ByteArray) (w : World) :
    Calls Try.prog 11 #[.int .i64 nb, .string s] w fun e w' => e = .returned (.string ⟨(Dif.cont nb s.data.toList).toArray⟩) ∧ w' = w := by
  by_cases h0 : nb ≤ 0
  · rw [cont_none nb s h0]
    go_enter Try.func11, Try.ntmps11
    go_wp2
    go_ret
    exact ⟨rfl, rfl⟩
  · by_cases h1 : nb < s.size
    · obtain ⟨n, rfl⟩ := Int.eq_ofNat_of_zero_le (show 0 ≤ nb by omega)
      rw [cont_cut n s]
      go_enter Try.func11, Try.ntmps11
      go_wp2
      go_ret
      exact ⟨rfl, rfl⟩
    · rw [cont_all nb s (by omega)]
      go_enter Try.func11, Try.ntmps11
      go_wp2
      go_ret
      exact ⟨rfl, rfl⟩

/-! ### storedLength -/
set_option maxHeartbeats 400000 in
theorem length_calls (nb pad : Int) (s : ByteArray) (w : World) :
    Calls Try.prog 10 #[.int .i64 nb, .int .i64 pad, .string s] w fun e w' => e = .returned (.int .i64 (Dif.slen nb pad s.data.toList)) ∧ w' = w := by
  by_cases h0 : nb ≤ 0
  · rw [show Dif.slen nb pad s.data.toList = 0 from if_pos h0]
    go_enter Try.func10, Try.ntmps10
    go_wp2_with fail
    go_ret
    exact ⟨rfl, rfl⟩
  · have hs : Dif.slen nb pad s.data.toList = max (min pad nb) ((⟨(Dif.cont nb s.data.toList).toArray⟩ : ByteArray).size : Int) := if_neg h0
    rw [hs]
    have c := fun w => content_calls nb s w
    generalize (⟨(Dif.cont nb s.data.toList).toArray⟩ : ByteArray) = x at *
    have C := hide c
    clear c hs
    by_cases h1 : nb < pad
    · by_cases h2 : (x.size : Int) < nb
      · rw [show max (min pad nb) (x.size : Int) = nb by omega]
        go_enter Try.func10, Try.ntmps10
        go_wp2_with fail
        refine (C.out _).mono ?_
        rintro e w1 ⟨rfl, rfl⟩
        go_wp2_with fail
        go_ret
        exact ⟨rfl, rfl⟩
      · rw [show max (min pad nb) (x.size : Int) = x.size by omega]
        go_enter Try.func10, Try.ntmps10
        go_wp2_with fail
        refine (C.out _).mono ?_
        rintro e w1 ⟨rfl, rfl⟩
        go_wp2_with fail
        go_ret
        exact ⟨rfl, rfl⟩
    · by_cases h2 : (x.size : Int) < pad
      · rw [show max (min pad nb) (x.size : Int) = pad by omega]
        go_enter Try.func10, Try.ntmps10
        go_wp2_with fail
        refine (C.out _).mono ?_
        rintro e w1 ⟨rfl, rfl⟩
        go_wp2_with fail
        go_ret
        exact ⟨rfl, rfl⟩
      · rw [show max (min pad nb) (x.size : Int) = x.size by omega]
        go_enter Try.func10, Try.ntmps10
        go_wp2_with fail
        refine (C.out _).mono ?_
        rintro e w1 ⟨rfl, rfl⟩
        go_wp2_with fail
        go_ret
        exact ⟨rfl, rfl⟩

/-! ### onlySpaces -/
set_option maxHeartbeats 400000 in
theorem spaces_calls (s : ByteArray) (w : World) (hs : s.size ≤ 524289) :
    Calls Try.prog 12 #[.string s] w fun e w' => e = .returned (.bool (s.data.toList.all fun u => u == 32)) ∧ w' = w := by
  generalize hv : (s.data.toList.all fun u => u == 32) = v
  have Hv := hide hv
  clear hv
  go_enter Try.func12, Try.ntmps12
  go_wp2
  go_loop [3] (fun i => ∃ k : Nat, k ≤ s.size ∧ i = .int .i64 k ∧ Hid (∀ j, j < k → s.data.toList[j]? = some 32)) (fun i => s.size - (intOf i).toNat)
  case atStart => exact ⟨0, Nat.zero_le _, rfl, fun j hj => absurd hj (Nat.not_lt_zero _)⟩
  case round =>
    obtain ⟨k, hk, rfl, hsame⟩ := hrel
    by_cases hlt : k < s.size
    · have hget : s.data.toList[k]? = some s[k] := by
        rw [List.getElem?_eq_getElem (by simpa using hlt)]; rfl
      have Hget := hide hget
      clear hget
      go_wp2
      · have hne : (((s[k].toNat : Int)) != 32) = true := by assumption
        go_ret
        have hvf : v = false := by
          rw [← Hv.out, Bool.eq_false_iff]
          intro h
          rw [List.all_eq_true] at h
          have := h s[k] (List.mem_of_getElem? Hget.out)
          rw [beq_iff_eq] at this
          rw [this] at hne
          exact absurd hne (by decide)
        rw [hvf]
        exact ⟨rfl, rfl⟩
      · have heq : (((s[k].toNat : Int)) != 32) = false := by assumption
        go_round
        case rel =>
          refine ⟨k + 1, by omega, by go_num, ?_⟩
          intro j hj
          by_cases hjk : j < k
          · exact hsame.out j hjk
          · have : j = k := by omega
            subst this
            rw [Hget.out]
            have h32 : s[j].toNat = 32 := by
              have := (bne_eq_false_iff_eq.1 heq)
              omega
            exact congrArg some (UInt8.toNat_inj.1 h32)
        case measure => simp [intOf]; omega
    · go_wp2
      go_ret
      have hvt : v = true := by
        rw [← Hv.out, List.all_eq_true]
        intro x hx
        obtain ⟨j, hj, rfl⟩ := List.mem_iff_getElem.1 hx
        have := hsame.out j (by simp at hj; omega)
        rw [List.getElem?_eq_getElem hj] at this
        simpa using this
      rw [hvt]
      exact ⟨rfl, rfl⟩
end Go.Proofs.Qxb6618368a.W
