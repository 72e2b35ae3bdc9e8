import Derived.Test.Qxb6618368aWalksD
namespace Go.Proofs.Qxb6618368a.W
open Go.ChangeShapes Go.WideShapes Go.ChangeAt Go.RowKit
set_option linter.unusedVariables false

set_option maxHeartbeats 2000000 in
theorem eqv_main (ch nb pad : Int) (hx : Bool) (a b c : ByteArray) (z : Int) (zb : UInt8) (ab bc ac r : Bool) (W : World)
    (ha : a.size ≤ 262144) (hb : b.size ≤ 262144) (hc : c.size ≤ 262144) (hp : pad ≤ 65536) (hsum : a.size + b.size + c.size ≤ 1048576)
    (Hz : Hid (z = (zb.toNat : Int)))
    (Cab : Hid (∀ w, Calls Try.prog 6 #[.int .i64 ch, .int .i64 nb, .int .i64 pad, .bool hx, .string a, .string b] w fun e w' => e = .returned (.bool ab) ∧ Grown w w'))
    (Cba : Hid (∀ w, Calls Try.prog 6 #[.int .i64 ch, .int .i64 nb, .int .i64 pad, .bool hx, .string b, .string a] w fun e w' => e = .returned (.bool ab) ∧ Grown w w'))
    (Caa : Hid (∀ w, Calls Try.prog 6 #[.int .i64 ch, .int .i64 nb, .int .i64 pad, .bool hx, .string a, .string a] w fun e w' => e = .returned (.bool false) ∧ Grown w w'))
    (Cbc : Hid (∀ w, Calls Try.prog 6 #[.int .i64 ch, .int .i64 nb, .int .i64 pad, .bool hx, .string b, .string c] w fun e w' => e = .returned (.bool bc) ∧ Grown w w'))
    (Cac : Hid (∀ w, Calls Try.prog 6 #[.int .i64 ch, .int .i64 nb, .int .i64 pad, .bool hx, .string a, .string c] w fun e w' => e = .returned (.bool ac) ∧ Grown w w'))
    (Cex : Hid (∀ w, Calls Try.prog 6 #[.int .i64 ch, .int .i64 nb, .int .i64 pad, .bool hx, .string a, .string ⟨(a.data.toList ++ [zb]).toArray⟩] w fun e w' => e = .returned (.bool r) ∧ Grown w w'))
    (Hr : Hid (r = (decide ((a.size : Int) < nb) && (decide (pad ≤ (a.size : Int)) || zb != 32))))
    (Ht : Hid (ab = false → bc = false → ac = false)) :
    Calls Try.prog 4 #[.int .i64 ch, .int .i64 nb, .int .i64 pad, .bool hx, .string a, .string b, .string c, .int .u8 z] W fun e w' => e = .returned (.bool true) ∧ Grown W w' := by
  have cy := fun w => bytes8_yes ch nb pad hx a b c z w hsum
  have Cy := hide cy
  clear cy
  have hz := Hz.out
  subst hz
  have hcase : ab = true ∨ (ab = false ∧ bc = true) ∨ (ab = false ∧ bc = false ∧ ac = false) := by
    have := Ht.out
    cases ab <;> cases bc <;> simp_all
  clear Ht Hz
  rcases hcase with rfl | ⟨rfl, rfl⟩ | ⟨rfl, rfl, rfl⟩
  all_goals
    go_enter Try.func4, Try.ntmps4
    go_wp2_with fail
    refine (Cy.out _).mono ?_
    rintro e w1 ⟨rfl, rfl⟩
    go_wp2_with fail
    refine (Cab.out _).mono ?_
    rintro e w2 ⟨rfl, h2⟩
    have G2 := hide h2
    clear h2
    go_wp2_with fail
    refine (Cba.out _).mono ?_
    rintro e w3 ⟨rfl, h3⟩
    have G3 := hide (grown_trans G2.out h3)
    clear h3
    go_wp2_with fail
    refine (Caa.out _).mono ?_
    rintro e w4 ⟨rfl, h4⟩
    have G4 := hide (grown_trans G3.out h4)
    clear h4
    go_wp2_with fail
    refine (Cbc.out _).mono ?_
    rintro e w5 ⟨rfl, h5⟩
    have G5 := hide (grown_trans G4.out h5)
    clear h5
    go_wp2_with fail
    refine (Cac.out _).mono ?_
    rintro e w6 ⟨rfl, h6⟩
    have G6 := hide (grown_trans G5.out h6)
    clear h6
    go_wp2_with (at_make; refine wp_make G6.out rfl _ _ rfl (a.size + 1) _ rfl rfl (by omega) (by omega) ?_; intro g w7 hr; obtain ⟨w8, hcopy, hcell, hfree, hconv, hgr⟩ := grown_run a zb hr; have G7 := hide hgr; clear hgr hr)
    refine (Cex.out _).mono ?_
    rintro e w9 ⟨rfl, h9⟩
    have G9 := hide (grown_trans G7.out h9)
    clear h9 hconv hcell hfree hcopy
    by_cases k1 : (a.size : Int) < nb
    · by_cases k2 : pad ≤ (a.size : Int)
      · obtain rfl : r = true := by rw [Hr.out]; simp [k1, k2]
        go_wp2_with fail
        go_ret
        exact ⟨rfl, G9.out⟩
      · by_cases k3 : zb = 32
        · obtain rfl : r = false := by rw [Hr.out]; simp [k2, k3]
          have k4 : ((zb.toNat : Int) != 32) = false := by rw [k3]; rfl
          have k5 : decide (pad ≤ (a.size : Int)) = false := by simpa using k2
          clear k3
          go_wp2_with fail
          go_ret
          exact ⟨rfl, G9.out⟩
        · obtain rfl : r = true := by rw [Hr.out]; simp [k1, k3]
          have k4 : ((zb.toNat : Int) != 32) = true := by
            rw [bne_iff_ne]
            intro h
            exact k3 (UInt8.toNat_inj.1 (by show zb.toNat = 32; omega))
          clear k3
          go_wp2_with fail
          go_ret
          exact ⟨rfl, G9.out⟩
    · obtain rfl : r = false := by rw [Hr.out]; simp [k1]
      go_wp2_with fail
      go_ret
      exact ⟨rfl, G9.out⟩
end Go.Proofs.Qxb6618368a.W
