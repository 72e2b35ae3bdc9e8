import Derived.Test.Qxb6618454aWalksC
namespace Go.Proofs.Qxb6618454a.W
open Go.ChangeShapes Go.WideShapes Go.ChangeAt Go.RowKit
set_option linter.unusedVariables false

set_option maxRecDepth 100000 in
set_option maxHeartbeats 4000000 in
theorem law_calls (ver : Int) (ao bo : Option Addr) (na ca nb cb : Nat) (xa xb : List ByteArray) (x : ByteArray) (W : World) (hA : Sl W ao na xa) (hB : Sl W bo nb xb)
    (hx : x.size ≤ 9223372036854775807) (hxa : ∀ j, j < na → (xa.getD j ByteArray.empty).size ≤ 9223372036854775807) (hxb : ∀ j, j < nb → (xb.getD j ByteArray.empty).size ≤ 9223372036854775807) :
    Calls Try.prog 3 #[.int .i64 ver, .slice ao na ca, .slice bo nb cb, .string x] W fun e w' => e = .returned (.bool true) ∧ Below W.heap.size W w' := by
  have cy := hide (bytes_calls ver ao bo na ca nb cb xa xb x W hA hB hx hxa hxb)
  have HA := hide hA
  have HB := hide hB
  have lenA := hide hA.len
  have lenB := hide hB.len
  clear hA hB hxa hxb
  go_enter Try.func3, Try.ntmps3
  go_wp2_with fail
  refine cy.out.mono ?_
  rintro e w1 ⟨⟨r, rfl, hsm⟩, rfl⟩
  clear cy
  cases r with
  | false =>
    clear hsm
    go_wp2_with fail
    go_ret
    exact ⟨rfl, Below.refl _ _⟩
  | true =>
    obtain ⟨ka, kb, kx, Fa, Fb⟩ := hsm rfl
    have FA := hide Fa
    have FB := hide Fb
    clear hsm Fa Fb hx
    go_wp2_with fail
    go_loop [9, 10] (fun z i => ∃ k t : Nat, k ≤ na ∧ t ≤ 1048576 ∧ i = .int .i64 k ∧ z = .int .i64 t) (fun _ i => na - (intOf i).toNat)
    case atStart => exact ⟨0, x.size, Nat.zero_le _, by omega, rfl, rfl⟩
    case round =>
      obtain ⟨k, t, hk, ht, rfl, rfl⟩ := hrel
      by_cases hlt : k < na
      · obtain ⟨b, off, rfl, _, hc⟩ := HA.out.there (by omega)
        have hcell := hc k hlt
        clear hc
        have hsz := FA.out k hlt
        obtain ⟨s, hs⟩ : ∃ s, s = xa.getD k ByteArray.empty := ⟨_, rfl⟩
        rw [← hs] at hcell hsz
        clear hs
        by_cases k2 : 1048576 < t + (16 + s.size)
        · go_wp2_with fail
          go_ret
          exact ⟨rfl, Below.refl _ _⟩
        · go_wp2_with fail
          go_round
          case rel => exact ⟨k + 1, t + (16 + s.size), by omega, by omega, by go_num, by go_num⟩
          case measure => simp [intOf]; omega
      · clear hk
        go_wp2_with fail
        go_loop [9, 11] (fun z i => ∃ k t : Nat, k ≤ nb ∧ t ≤ 1048576 ∧ i = .int .i64 k ∧ z = .int .i64 t) (fun _ i => nb - (intOf i).toNat)
        case atStart => exact ⟨0, t, Nat.zero_le _, by omega, rfl, rfl⟩
        case round =>
          clear ht
          obtain ⟨q, u, hq, hu, rfl, rfl⟩ := hrel
          by_cases hltb : q < nb
          · obtain ⟨b, off, rfl, _, hc⟩ := HB.out.there (by omega)
            have hcell := hc q hltb
            clear hc
            have hsz := FB.out q hltb
            obtain ⟨s, hs⟩ : ∃ s, s = xb.getD q ByteArray.empty := ⟨_, rfl⟩
            rw [← hs] at hcell hsz
            clear hs
            by_cases k2 : 1048576 < u + (16 + s.size)
            · go_wp2_with fail
              go_ret
              exact ⟨rfl, Below.refl _ _⟩
            · go_wp2_with fail
              go_round
              case rel => exact ⟨q + 1, u + (16 + s.size), by omega, by omega, by go_num, by go_num⟩
              case measure => simp [intOf]; omega
          · clear hq
            go_wp2_with (at_make; refine wp_make (W := w1) (Below.refl _ _) rfl _ _ rfl (na + nb) _ rfl rfl (by omega) (by omega) ?_; intro g w2 hJ hb _; have HJ := hide hJ; have Hb := hide hb; clear hJ hb)
            go_loopw [13, 14] (fun v i wr => ∃ k3 : Nat, k3 ≤ na ∧ i = .int .i64 k3 ∧ v = .slice (some ⟨g, 0, none⟩) k3 (na + nb) ∧ Hid (J w1 wr g (na + nb) (xa.take k3) ∧ Below w1.heap.size w1 wr)) (fun _ i _ => na - (intOf i).toNat)
            case atStart => exact ⟨0, Nat.zero_le _, rfl, rfl, HJ.out, Hb.out⟩
            case round =>
              obtain ⟨k3, hk3, rfl, rfl, hst⟩ := hrel
              by_cases hlt3 : k3 < na
              · obtain ⟨b, off, rfl, hbl, hc⟩ := HA.out.there (by omega)
                have hcell := (hst.out.2.cell (p := ⟨b, off + k3, none⟩) hbl).trans (hc k3 hlt3)
                clear hc hbl
                obtain ⟨s, hs⟩ : ∃ s, s = xa.getD k3 ByteArray.empty := ⟨_, rfl⟩
                rw [← hs] at hcell
                have Hs := hide hs
                clear hs
                have hl3 : Hid (k3 = (xa.take k3).length) := by
                  have := lenA.out
                  show _ = _
                  rw [List.length_take]
                  omega
                go_wp2_with (at_builtin; refine wp_append (W := w1) hst.out.1 hst.out.2 rfl _ _ rfl s k3 hl3.out rfl rfl (by omega) ?_; intro w3 hJ3 hb3 _; have HJ3 := hide hJ3; have Hb3 := hide hb3; clear hJ3 hb3)
                go_roundw
                case rel =>
                  refine ⟨k3 + 1, by omega, by go_num, by go_num, ?_, Hb3.out⟩
                  rw [take_next xa k3 (by rw [lenA.out]; exact hlt3), ← Hs.out]
                  exact HJ3.out
                case measure => simp [intOf]; omega
              · obtain rfl : na = k3 := by omega
                clear hk3 hlt3
                go_wp2_with fail
                have htA : Hid (xa.take na = xa) := List.take_of_length_le (by rw [lenA.out]; exact Nat.le_refl _)
                have htB : Hid (xb.take nb = xb) := List.take_of_length_le (by rw [lenB.out]; exact Nat.le_refl _)
                go_loopw [13, 15] (fun v i wr => ∃ k4 : Nat, k4 ≤ nb ∧ i = .int .i64 k4 ∧ v = .slice (some ⟨g, 0, none⟩) (na + k4) (na + nb) ∧ Hid (J w1 wr g (na + nb) (xa ++ xb.take k4) ∧ Below w1.heap.size w1 wr)) (fun _ i _ => nb - (intOf i).toNat)
                case atStart =>
                  refine ⟨0, Nat.zero_le _, rfl, rfl, ?_, hst.out.2⟩
                  have h := hst.out.1
                  rw [htA.out] at h
                  rw [List.take_zero, List.append_nil]
                  exact h
                case round =>
                  clear hst
                  obtain ⟨k4, hk4, rfl, rfl, hst⟩ := hrel
                  by_cases hlt4 : k4 < nb
                  · obtain ⟨b, off, rfl, hbl, hc⟩ := HB.out.there (by omega)
                    have hcell := (hst.out.2.cell (p := ⟨b, off + k4, none⟩) hbl).trans (hc k4 hlt4)
                    clear hc hbl
                    obtain ⟨s, hs⟩ : ∃ s, s = xb.getD k4 ByteArray.empty := ⟨_, rfl⟩
                    rw [← hs] at hcell
                    have Hs := hide hs
                    clear hs
                    have hl4 : Hid (na + k4 = (xa ++ xb.take k4).length) := by
                      have h1 := lenA.out
                      have h2 := lenB.out
                      show _ = _
                      rw [List.length_append, List.length_take]
                      omega
                    go_wp2_with (at_builtin; refine wp_append (W := w1) hst.out.1 hst.out.2 rfl _ _ rfl s (na + k4) hl4.out rfl rfl (by omega) ?_; intro w3 hJ3 hb3 _; have HJ3 := hide hJ3; have Hb3 := hide hb3; clear hJ3 hb3)
                    go_roundw
                    case rel =>
                      refine ⟨k4 + 1, by omega, by go_num, by go_num, ?_, Hb3.out⟩
                      rw [take_next xb k4 (by rw [lenB.out]; exact hlt4), ← Hs.out, ← List.append_assoc]
                      exact HJ3.out
                    case measure => simp [intOf]; omega
                  · obtain rfl : nb = k4 := by omega
                    clear hk4 hlt4
                    have hj0 := hst.out.1
                    rw [htB.out] at hj0
                    have Hj0 := hide hj0
                    clear hj0
                    go_wp2_with (at_make; refine wp_make (W := w1) hst.out.2 rfl _ _ rfl (na + nb + 1) _ rfl rfl (by omega) (by omega) ?_; intro g2 w4 hJ4 hb4 hoth; have HS5 := hide (And.intro hJ4 (And.intro (hoth g (na + nb) (xa ++ xb) Hj0.out) hb4)); clear hJ4 hb4 hoth)
                    clear hst Hj0
                    have hgg : Hid (g ≠ g2) := HS5.out.2.1.2
                    go_loopw [16, 17] (fun v i wr => ∃ k5 : Nat, k5 ≤ na ∧ i = .int .i64 k5 ∧ v = .slice (some ⟨g2, 0, none⟩) k5 (na + nb + 1) ∧ Hid (J w1 wr g2 (na + nb + 1) (xa.take k5) ∧ J w1 wr g (na + nb) (xa ++ xb) ∧ Below w1.heap.size w1 wr)) (fun _ i _ => na - (intOf i).toNat)
                    case atStart => exact ⟨0, Nat.zero_le _, rfl, rfl, HS5.out.1, HS5.out.2.1.1, HS5.out.2.2⟩
                    case round =>
                      clear HS5
                      obtain ⟨k5, hk5, rfl, rfl, hst⟩ := hrel
                      by_cases hlt5 : k5 < na
                      · obtain ⟨b, off, rfl, hbl, hc⟩ := HA.out.there (by omega)
                        have hcell := (hst.out.2.2.cell (p := ⟨b, off + k5, none⟩) hbl).trans (hc k5 hlt5)
                        clear hc hbl
                        obtain ⟨s, hs⟩ : ∃ s, s = xa.getD k5 ByteArray.empty := ⟨_, rfl⟩
                        rw [← hs] at hcell
                        have Hs := hide hs
                        clear hs
                        have hl5 : Hid (k5 = (xa.take k5).length) := by
                          have := lenA.out
                          show _ = _
                          rw [List.length_take]
                          omega
                        go_wp2_with (at_builtin; refine wp_append (W := w1) hst.out.1 hst.out.2.2 rfl _ _ rfl s k5 hl5.out rfl rfl (by omega) ?_; intro w5 hJ5 hb5 hoth; have HS6 := hide (And.intro hJ5 (And.intro (hoth g (na + nb) (xa ++ xb) hgg.out hst.out.2.1) hb5)); clear hJ5 hb5 hoth)
                        go_roundw
                        case rel =>
                          refine ⟨k5 + 1, by omega, by go_num, by go_num, ?_, HS6.out.2⟩
                          rw [take_next xa k5 (by rw [lenA.out]; exact hlt5), ← Hs.out]
                          exact HS6.out.1
                        case measure => simp [intOf]; omega
                      · obtain rfl : na = k5 := by omega
                        clear hk5 hlt5
                        have hj1 := hst.out.1
                        rw [htA.out] at hj1
                        have Hj1 := hide hj1
                        clear hj1
                        go_wp2_with (at_builtin; refine wp_append (W := w1) Hj1.out hst.out.2.2 rfl _ _ rfl x na lenA.out.symm rfl rfl (by omega) ?_; intro w6 hJ6 hb6 hoth; have HS6 := hide (And.intro hJ6 (And.intro (hoth g (na + nb) (xa ++ xb) hgg.out hst.out.2.1) hb6)); clear hJ6 hb6 hoth)
                        clear hst Hj1
                        go_loopw [16, 18] (fun v i wr => ∃ k6 : Nat, k6 ≤ nb ∧ i = .int .i64 k6 ∧ v = .slice (some ⟨g2, 0, none⟩) (na + 1 + k6) (na + nb + 1) ∧ Hid (J w1 wr g2 (na + nb + 1) (xa ++ [x] ++ xb.take k6) ∧ J w1 wr g (na + nb) (xa ++ xb) ∧ Below w1.heap.size w1 wr)) (fun _ i _ => nb - (intOf i).toNat)
                        case atStart =>
                          refine ⟨0, Nat.zero_le _, rfl, rfl, ?_, HS6.out.2⟩
                          rw [List.take_zero, List.append_nil]
                          exact HS6.out.1
                        case round =>
                          clear HS6
                          obtain ⟨k6, hk6, rfl, rfl, hst⟩ := hrel
                          by_cases hlt6 : k6 < nb
                          · obtain ⟨b, off, rfl, hbl, hc⟩ := HB.out.there (by omega)
                            have hcell := (hst.out.2.2.cell (p := ⟨b, off + k6, none⟩) hbl).trans (hc k6 hlt6)
                            clear hc hbl
                            obtain ⟨s, hs⟩ : ∃ s, s = xb.getD k6 ByteArray.empty := ⟨_, rfl⟩
                            rw [← hs] at hcell
                            have Hs := hide hs
                            clear hs
                            have hl6 : Hid (na + 1 + k6 = (xa ++ [x] ++ xb.take k6).length) := by
                              have h1 := lenA.out
                              have h2 := lenB.out
                              show _ = _
                              rw [List.length_append, List.length_append, List.length_take, List.length_singleton]
                              omega
                            go_wp2_with (at_builtin; refine wp_append (W := w1) hst.out.1 hst.out.2.2 rfl _ _ rfl s (na + 1 + k6) hl6.out rfl rfl (by omega) ?_; intro w5 hJ5 hb5 hoth; have HS6 := hide (And.intro hJ5 (And.intro (hoth g (na + nb) (xa ++ xb) hgg.out hst.out.2.1) hb5)); clear hJ5 hb5 hoth)
                            go_roundw
                            case rel =>
                              refine ⟨k6 + 1, by omega, by go_num, by go_num, ?_, HS6.out.2⟩
                              rw [take_next xb k6 (by rw [lenB.out]; exact hlt6), ← Hs.out, ← List.append_assoc]
                              exact HS6.out.1
                            case measure => simp [intOf]; omega
                          · obtain rfl : nb = k6 := by omega
                            clear hk6 hlt6
                            have hj2 := hst.out.1
                            rw [htB.out] at hj2
                            have Hj2 := hide hj2
                            clear hj2
                            go_wp2_with (at_make; refine wp_make (W := w1) hst.out.2.2 rfl _ _ rfl (na + nb) _ rfl rfl (by omega) (by omega) ?_; intro g3 w7 hJ7 hb7 hoth; have HS7 := hide (And.intro hJ7 (And.intro (hoth g (na + nb) (xa ++ xb) hst.out.2.1) (And.intro (hoth g2 (na + nb + 1) (xa ++ [x] ++ xb) Hj2.out) hb7))); clear hJ7 hb7 hoth)
                            clear hst Hj2
                            have hg3 : Hid (g ≠ g3 ∧ g2 ≠ g3) := ⟨HS7.out.2.1.2, HS7.out.2.2.1.2⟩
                            have hlj : Hid ((xa ++ xb).length = na + nb) := by
                              have h1 := lenA.out
                              have h2 := lenB.out
                              show _ = _
                              rw [List.length_append]
                              omega
                            go_loopw [19, 20] (fun v i wr => ∃ k7 m : Nat, k7 ≤ na + nb ∧ m ≤ k7 ∧ i = .int .i64 k7 ∧ v = .slice (some ⟨g3, 0, none⟩) m (na + nb) ∧ Hid (m = (strike ((xa ++ xb).take k7) x).length ∧ J w1 wr g3 (na + nb) (strike ((xa ++ xb).take k7) x) ∧ J w1 wr g (na + nb) (xa ++ xb) ∧ J w1 wr g2 (na + nb + 1) (xa ++ [x] ++ xb) ∧ Below w1.heap.size w1 wr)) (fun _ i _ => na + nb - (intOf i).toNat)
                            case atStart => exact ⟨0, 0, Nat.zero_le _, Nat.le_refl _, rfl, rfl, rfl, HS7.out.1, HS7.out.2.1.1, HS7.out.2.2.1.1, HS7.out.2.2.2⟩
                            case round =>
                              clear HS7
                              obtain ⟨k7, m, hk7, hm7, rfl, rfl, hst⟩ := hrel
                              by_cases hlt7 : k7 < na + nb
                              · have hcell := hst.out.2.2.1.cell k7 (by rw [hlj.out]; exact hlt7)
                                obtain ⟨s, hs⟩ : ∃ s, s = (xa ++ xb).getD k7 ByteArray.empty := ⟨_, rfl⟩
                                rw [← hs] at hcell
                                have Hs := hide hs
                                clear hs
                                cases ht : (s.toList == x.toList)
                                · go_wp2_with (at_builtin; refine wp_append (W := w1) hst.out.2.1 hst.out.2.2.2.2 rfl _ _ rfl s m hst.out.1 rfl rfl (by omega) ?_; intro w8 hJ8 hb8 hoth; have HS8 := hide (And.intro hJ8 (And.intro (hoth g (na + nb) (xa ++ xb) hg3.out.1 hst.out.2.2.1) (And.intro (hoth g2 (na + nb + 1) (xa ++ [x] ++ xb) hg3.out.2 hst.out.2.2.2.1) hb8))); clear hJ8 hb8 hoth)
                                  go_roundw
                                  case rel =>
                                    have e := strike_miss (xa ++ xb) x k7 (by rw [hlj.out]; exact hlt7) (by rw [← Hs.out]; exact ht)
                                    rw [← Hs.out] at e
                                    refine ⟨k7 + 1, m + 1, by omega, by omega, by go_num, by go_num, ?_⟩
                                    show _ ∧ _
                                    rw [e]
                                    refine ⟨?_, HS8.out⟩
                                    rw [List.length_append, ← hst.out.1]
                                    rfl
                                  case measure => simp [intOf]; omega
                                · go_wp2_with fail
                                  go_roundw
                                  case rel =>
                                    have e := strike_hit (xa ++ xb) x k7 (by rw [hlj.out]; exact hlt7) (by rw [← Hs.out]; exact ht)
                                    refine ⟨k7 + 1, m, by omega, by omega, by go_num, rfl, ?_⟩
                                    show _ ∧ _
                                    rw [e]
                                    exact hst.out
                                  case measure => simp [intOf]; omega
                              · obtain rfl : k7 = na + nb := by omega
                                have htj : (xa ++ xb).take (na + nb) = xa ++ xb := List.take_of_length_le (by rw [hlj.out]; exact Nat.le_refl _)
                                have hst' := hst.out
                                rw [htj] at hst'
                                obtain ⟨e1, J3, J1, J2, hb⟩ := hst'
                                have E1 := hide e1
                                have S1 := hide J1
                                have S2 := hide J2
                                have S3 := hide J3
                                have S0 := hide hb
                                clear e1 J1 J2 J3 hb htj hst hk7 hlt7
                                obtain ⟨pA, hpA⟩ : ∃ p, Lib.containsS xa x = p := ⟨_, rfl⟩
                                obtain ⟨pB, hpB⟩ : ∃ p, Lib.containsS xb x = p := ⟨_, rfl⟩
                                have HpA := hide hpA
                                have HpB := hide hpB
                                clear hpA hpB
                                have l2 : Hid ((xa ++ [x] ++ xb).length = na + 1 + nb) := by
                                  have h1 := lenA.out
                                  have h2 := lenB.out
                                  show _ = _
                                  rw [List.length_append, List.length_append, List.length_singleton]
                                  omega
                                have c1 := hide (forbids_calls ver ao na ca xa x pA HpA.out wr (HA.out.below S0.out))
                                go_wp2_with fail
                                refine c1.out.mono ?_
                                rintro e v1 ⟨rfl, h1⟩
                                have S0 := hide (S0.out.trans (h1.mono S0.out.size))
                                have S1 := hide (S1.out.below h1)
                                have S2 := hide (S2.out.below h1)
                                have S3 := hide (S3.out.below h1)
                                clear h1 c1
                                have c1 := hide (forbids_calls ver bo nb cb xb x pB HpB.out v1 (HB.out.below S0.out))
                                go_wp2_with fail
                                refine c1.out.mono ?_
                                rintro e v2 ⟨rfl, h1⟩
                                have S0 := hide (S0.out.trans (h1.mono S0.out.size))
                                have S1 := hide (S1.out.below h1)
                                have S2 := hide (S2.out.below h1)
                                have S3 := hide (S3.out.below h1)
                                clear h1 c1
                                have c1 := hide (forbids_calls ver (some ⟨g, 0, none⟩) (na + nb) (na + nb) (xa ++ xb) x (pA || pB) (by rw [contains_join, HpA.out, HpB.out]) v2 (S1.out.sl _ hlj.out (by omega)))
                                go_wp2_with fail
                                refine c1.out.mono ?_
                                rintro e v3 ⟨rfl, h1⟩
                                have S0 := hide (S0.out.trans (h1.mono S0.out.size))
                                have S2 := hide (S2.out.below h1)
                                have S3 := hide (S3.out.below h1)
                                clear h1 c1
                                have c1 := hide (forbids_calls ver (some ⟨g2, 0, none⟩) (na + 1 + nb) (na + nb + 1) (xa ++ [x] ++ xb) x true (contains_insert xa xb x) v3 (S2.out.sl _ l2.out (by omega)))
                                go_wp2_with fail
                                refine c1.out.mono ?_
                                rintro e v4 ⟨rfl, h1⟩
                                have S0 := hide (S0.out.trans (h1.mono S0.out.size))
                                have S3 := hide (S3.out.below h1)
                                clear h1 c1
                                have c1 := hide (forbids_calls ver (some ⟨g3, 0, none⟩) m (na + nb) (strike (xa ++ xb) x) x false (contains_strike (xa ++ xb) x) v4 (S3.out.sl _ E1.out.symm (by omega)))
                                go_wp2_with fail
                                refine c1.out.mono ?_
                                rintro e v5 ⟨rfl, h1⟩
                                have S0 := hide (S0.out.trans (h1.mono S0.out.size))
                                clear h1 c1 S1 S2 S3 HpA HpB
                                cases pA <;> cases pB
                                all_goals
                                  go_wp2_with fail
                                  go_ret
                                  exact ⟨rfl, S0.out⟩
end Go.Proofs.Qxb6618454a.W
