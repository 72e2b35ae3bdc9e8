import Derived.Test.Qxb6618454aRows
import Derived.WalkKit
import Derived.ProofKit
import Derived.OpenShut
import Derived.ShutString
import Derived.ChangeOld
import Derived.Below
import Derived.SliceStrings
import Derived.Lib.Strings
import Derived.Lib.Slices
import Derived.Lib.SlicesS
import Derived.Lib.Walk
namespace Go.Proofs.Qxb6618454a.W
open Go.ChangeShapes Go.WideShapes Go.ChangeAt Go.RowKit
set_option linter.unusedVariables false

theorem hide {p : Prop} (h : p) : Hid p := h

/-- A slice of strings with the elements xs: where there is one, it leads to their cells. -/
structure Sl (w : World) (ao : Option Addr) (n : Nat) (xs : List ByteArray) : Prop where
  len : xs.length = n
  max : n ≤ 9223372036854775807
  there : 0 < n → ∃ b off, ao = some ⟨b, off, none⟩ ∧ b < w.heap.size ∧ ∀ k, k < n → w.cell? ⟨b, off + k, none⟩ = some (.string (xs.getD k ByteArray.empty))

theorem Sl.below {W w : World} {ao : Option Addr} {n : Nat} {xs : List ByteArray} (h : Sl W ao n xs) (hb : Below W.heap.size W w) : Sl w ao n xs :=
  ⟨h.len, h.max, fun hn => by
    obtain ⟨b, off, e, hlt, hc⟩ := h.there hn
    exact ⟨b, off, e, Nat.lt_of_lt_of_le hlt hb.size, fun k hk => (hb.cell (p := ⟨b, off + k, none⟩) hlt).trans (hc k hk)⟩⟩

/-! ### slices.Index, slices.Contains at []string -/
set_option maxHeartbeats 400000 in
theorem index_calls (ao : Option Addr) (n c : Nat) (xs : List ByteArray) (x : ByteArray) (w : World) (h : Sl w ao n xs) :
    Calls Try.prog 7 #[.slice ao n c, .string x] w fun e w' => e = .returned (.int .i64 (Lib.idxOfS xs x)) ∧ w' = w := by
  obtain ⟨r, hr⟩ : ∃ r, r = Lib.idxOfS xs x := ⟨_, rfl⟩
  rw [← hr]
  have Hr := hide hr
  have H := hide h
  have hmax := h.max
  have htk : Hid (xs.take n = xs) := List.take_of_length_le (by rw [h.len]; exact Nat.le_refl _)
  clear hr h
  go_enter Try.func7, Try.ntmps7
  go_wp2
  go_loop [5, 8] (fun _ i => ∃ k : Nat, k ≤ n ∧ i = .int .i64 k ∧ Hid (∀ j, j < k → xs.getD j ByteArray.empty ≠ x)) (fun _ i => n - (intOf i).toNat)
  case atStart => exact ⟨0, Nat.zero_le _, rfl, fun j hj => absurd hj (Nat.not_lt_zero _)⟩
  case round =>
    obtain ⟨k, hk, rfl, hne⟩ := hrel
    by_cases hlt : k < n
    · obtain ⟨b, off, rfl, _, hc⟩ := H.out.there (by omega)
      have hcell := hc k hlt
      clear hc
      obtain ⟨s, hs⟩ : ∃ s, s = xs.getD k ByteArray.empty := ⟨_, rfl⟩
      rw [← hs] at hcell
      have Hs := hide hs
      clear hs
      go_wp2
      · have heq : (x.toList == s.toList) = true := by assumption
        go_ret
        refine ⟨?_, rfl⟩
        have e1 := Lib.idxOfS_hit xs n k x hlt (by rw [H.out.len]; exact Nat.le_refl _) (by rw [← Hs.out]; exact ((Lib.bytes_beq_iff _ _).1 heq).symm) hne.out
        rw [htk.out] at e1
        rw [Hr.out, e1]
        rfl
      · have hneq : (x.toList == s.toList) = false := by assumption
        go_round
        case rel =>
          refine ⟨k + 1, by omega, by go_num, fun j hj => ?_⟩
          by_cases e : j = k
          · subst e
            intro he
            exact (Lib.bytes_beq_false_iff _ _).1 hneq (by rw [Hs.out]; exact he.symm)
          · exact hne.out j (by omega)
        case measure => simp [intOf]; omega
    · go_wp2
      go_ret
      refine ⟨?_, rfl⟩
      have e1 := Lib.idxOfS_miss xs n x (fun j hj => hne.out j (by omega))
      rw [htk.out] at e1
      rw [Hr.out, e1]
      rfl

theorem contains_calls (ao : Option Addr) (n c : Nat) (xs : List ByteArray) (x : ByteArray) (w : World) (h : Sl w ao n xs) :
    Calls Try.prog 6 #[.slice ao n c, .string x] w fun e w' => e = .returned (.bool (Lib.containsS xs x)) ∧ w' = w := by
  have ci := hide (index_calls ao n c xs x w h)
  unfold Lib.containsS
  clear h
  go_enter Try.func6, Try.ntmps6
  go_wp2_with fail
  refine ci.out.mono ?_
  rintro e w1 ⟨rfl, rfl⟩
  go_wp2_with fail
  go_ret
  exact ⟨rfl, rfl⟩

/-! ### (Blackout).Forbids -/
theorem forbids_calls (ver : Int) (ao : Option Addr) (n c : Nat) (xs : List ByteArray) (x : ByteArray) (r : Bool) (hr : Lib.containsS xs x = r) (w : World) (h : Sl w ao n xs) :
    Calls Try.prog 5 #[.agg #[.int .i64 ver, .slice ao n c], .string x] w fun e w' => e = .returned (.bool r) ∧ Below w.heap.size w w' := by
  subst hr
  have hb : Below w.heap.size w (w.alloc (.cells #[.int .i64 ver, .slice ao n c] 25)) := (Below.refl _ _).alloc (Nat.le_refl _) _
  have ci := hide (contains_calls ao n c xs x _ (h.below hb))
  have Hb := hide hb
  generalize Lib.containsS xs x = r at *
  clear h hb
  go_enter Try.func5, Try.ntmps5
  go_wp2_with fail
  refine ci.out.mono ?_
  rintro e w1 ⟨rfl, rfl⟩
  go_wp2_with fail
  go_ret
  exact ⟨rfl, Hb.out⟩
end Go.Proofs.Qxb6618454a.W
