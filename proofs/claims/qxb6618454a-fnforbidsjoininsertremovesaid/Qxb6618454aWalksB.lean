import Derived.Test.Qxb6618454aWalksA
namespace Go.Proofs.Qxb6618454a.W
open Go.ChangeShapes Go.WideShapes Go.ChangeAt Go.RowKit
set_option linter.unusedVariables false

/-- every element of xs has at most 1<<20 bytes -/
def Few (n : Nat) (xs : List ByteArray) : Prop := ∀ j, j < n → (xs.getD j ByteArray.empty).size ≤ 1048576

/-- zzBytes's answer: where it says true, everything is small -/
def Tells (na nb : Nat) (xa xb : List ByteArray) (x : ByteArray) (e : Ending) : Prop := ∃ r : Bool, e = .returned (.bool r) ∧ (r = true → na ≤ 1048576 ∧ nb ≤ 1048576 ∧ x.size ≤ 1048576 ∧ Few na xa ∧ Few nb xb)
theorem Tells.no (na nb : Nat) (xa xb : List ByteArray) (x : ByteArray) : Tells na nb xa xb x (.returned (.bool false)) := ⟨false, rfl, fun h => by cases h⟩
theorem Tells.yes {na nb : Nat} {xa xb : List ByteArray} {x : ByteArray} (h1 : na ≤ 1048576) (h2 : nb ≤ 1048576) (h3 : x.size ≤ 1048576) (h4 : Few na xa) (h5 : Few nb xb) : Tells na nb xa xb x (.returned (.bool true)) := ⟨true, rfl, fun _ => ⟨h1, h2, h3, h4, h5⟩⟩

/-! ### zzBytes: where it says true, everything is small -/
set_option maxHeartbeats 1000000 in
theorem bytes_calls (ver : Int) (ao bo : Option Addr) (na ca nb cb : Nat) (xa xb : List ByteArray) (x : ByteArray) (w : World) (hA : Sl w ao na xa) (hB : Sl w bo nb xb)
    (hx : x.size ≤ 9223372036854775807) (hxa : ∀ j, j < na → (xa.getD j ByteArray.empty).size ≤ 9223372036854775807) (hxb : ∀ j, j < nb → (xb.getD j ByteArray.empty).size ≤ 9223372036854775807) :
    Calls Try.prog 4 #[.int .i64 ver, .slice ao na ca, .slice bo nb cb, .string x] w fun e w' => Tells na nb xa xb x e ∧ w' = w := by
  have HA := hide hA
  have HB := hide hB
  have ma := hA.max
  have mb := hB.max
  have Hxa := hide hxa
  have Hxb := hide hxb
  clear hA hB hxa hxb
  by_cases ka : 1048576 < na
  · go_enter Try.func4, Try.ntmps4
    go_wp2
    go_ret
    exact ⟨Tells.no _ _ _ _ _, rfl⟩
  · go_enter Try.func4, Try.ntmps4
    go_wp2
    go_loop [9, 10] (fun z i => ∃ k t : Nat, k ≤ na ∧ t ≤ 1048576 ∧ i = .int .i64 k ∧ z = .int .i64 t ∧ Hid (∀ j, j < k → (xa.getD j ByteArray.empty).size ≤ 1048576)) (fun _ i => na - (intOf i).toNat)
    case atStart => exact ⟨0, na, Nat.zero_le _, by omega, rfl, rfl, fun j hj => absurd hj (Nat.not_lt_zero _)⟩
    case round =>
      obtain ⟨k, t, hk, ht, rfl, rfl, hfew⟩ := hrel
      by_cases hlt : k < na
      · obtain ⟨b, off, rfl, _, hc⟩ := HA.out.there (by omega)
        have hcell := hc k hlt
        clear hc
        have hsz := Hxa.out k hlt
        obtain ⟨s, hs⟩ : ∃ s, s = xa.getD k ByteArray.empty := ⟨_, rfl⟩
        rw [← hs] at hcell hsz
        have Hs := hide hs
        clear hs
        by_cases k1 : 1048576 < s.size
        · go_wp2
          go_ret
          exact ⟨Tells.no _ _ _ _ _, rfl⟩
        · by_cases k2 : 1048576 < t + s.size
          · go_wp2
            go_ret
            exact ⟨Tells.no _ _ _ _ _, rfl⟩
          · go_wp2
            go_round
            case rel =>
              refine ⟨k + 1, t + s.size, by omega, by omega, by go_num, by go_num, fun j hj => ?_⟩
              by_cases e : j = k
              · subst e
                rw [← Hs.out]
                omega
              · exact hfew.out j (by omega)
            case measure => simp [intOf]; omega
      · have Fa : Hid (Few na xa) := fun j hj => hfew.out j (by omega)
        clear hfew
        by_cases kb : 1048576 < nb
        · go_wp2
          go_ret
          exact ⟨Tells.no _ _ _ _ _, rfl⟩
        · by_cases kt : 1048576 < t + nb
          · go_wp2
            go_ret
            exact ⟨Tells.no _ _ _ _ _, rfl⟩
          · go_wp2
            go_loop [9, 11] (fun z i => ∃ k t : Nat, k ≤ nb ∧ t ≤ 1048576 ∧ i = .int .i64 k ∧ z = .int .i64 t ∧ Hid (∀ j, j < k → (xb.getD j ByteArray.empty).size ≤ 1048576)) (fun _ i => nb - (intOf i).toNat)
            case atStart => exact ⟨0, t + nb, Nat.zero_le _, by omega, rfl, by go_num, fun j hj => absurd hj (Nat.not_lt_zero _)⟩
            case round =>
              clear ht kt
              obtain ⟨q, u, hq, hu, rfl, rfl, hfew⟩ := hrel
              by_cases hltb : q < nb
              · obtain ⟨b, off, rfl, _, hc⟩ := HB.out.there (by omega)
                have hcell := hc q hltb
                clear hc
                have hsz := Hxb.out q hltb
                obtain ⟨s, hs⟩ : ∃ s, s = xb.getD q ByteArray.empty := ⟨_, rfl⟩
                rw [← hs] at hcell hsz
                have Hs := hide hs
                clear hs
                by_cases k1 : 1048576 < s.size
                · go_wp2
                  go_ret
                  exact ⟨Tells.no _ _ _ _ _, rfl⟩
                · by_cases k2 : 1048576 < u + s.size
                  · go_wp2
                    go_ret
                    exact ⟨Tells.no _ _ _ _ _, rfl⟩
                  · go_wp2
                    go_round
                    case rel =>
                      refine ⟨q + 1, u + s.size, by omega, by omega, by go_num, by go_num, fun j hj => ?_⟩
                      by_cases e : j = q
                      · subst e
                        rw [← Hs.out]
                        omega
                      · exact hfew.out j (by omega)
                    case measure => simp [intOf]; omega
              · have Fb : Hid (Few nb xb) := fun j hj => hfew.out j (by omega)
                clear hfew
                by_cases kx : 1048576 < x.size
                · go_wp2
                  go_ret
                  exact ⟨Tells.no _ _ _ _ _, rfl⟩
                · by_cases ky : 1048576 < u + x.size
                  · go_wp2
                    go_ret
                    exact ⟨Tells.no _ _ _ _ _, rfl⟩
                  · go_wp2
                    go_ret
                    exact ⟨Tells.yes (by omega) (by omega) (by omega) Fa.out Fb.out, rfl⟩
end Go.Proofs.Qxb6618454a.W
