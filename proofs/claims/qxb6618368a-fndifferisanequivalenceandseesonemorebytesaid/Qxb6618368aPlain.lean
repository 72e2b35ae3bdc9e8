namespace Go.Proofs.Qxb6618368a.Dif
/-- the byte at place i, a space behind the end -/
def atB (s : List UInt8) (i : Nat) : UInt8 := s.getD i 32
def sto (nb pad : Int) (n : Nat) : Int := min (max (n : Int) pad) nb
/-- the two strings agree at the first n places, spaces behind their ends -/
def Agr (n : Nat) (a b : List UInt8) : Prop := ∀ i, i < n → atB a i = atB b i
/-- the same, stored -/
def Same (nb pad : Int) (a b : List UInt8) : Prop := sto nb pad a.length = sto nb pad b.length ∧ Agr (sto nb pad a.length).toNat a b
def agr (n : Nat) (a b : List UInt8) : Bool := (List.range n).all fun i => atB a i == atB b i
def differ (nb pad : Int) (a b : List UInt8) : Bool := !(sto nb pad a.length == sto nb pad b.length && agr (sto nb pad a.length).toNat a b)

theorem agr_true (n : Nat) (a b : List UInt8) : agr n a b = true ↔ Agr n a b := by
  simp [agr, Agr]
theorem differ_false (nb pad : Int) (a b : List UInt8) : differ nb pad a b = false ↔ Same nb pad a b := by
  unfold differ Same
  rw [Bool.not_eq_false', Bool.and_eq_true, beq_iff_eq, agr_true]
theorem differ_true (nb pad : Int) (a b : List UInt8) : differ nb pad a b = true ↔ ¬ Same nb pad a b := by
  rw [← differ_false]; simp

theorem Same.refl (nb pad : Int) (a : List UInt8) : Same nb pad a a := ⟨rfl, fun _ _ => rfl⟩
theorem Same.symm {nb pad : Int} {a b : List UInt8} (h : Same nb pad a b) : Same nb pad b a :=
  ⟨h.1.symm, fun i hi => (h.2 i (by rw [h.1]; exact hi)).symm⟩
theorem Same.trans {nb pad : Int} {a b c : List UInt8} (h : Same nb pad a b) (g : Same nb pad b c) : Same nb pad a c :=
  ⟨h.1.trans g.1, fun i hi => (h.2 i hi).trans (g.2 i (by rw [← h.1]; exact hi))⟩

theorem atB_append_left (a b : List UInt8) (i : Nat) (h : i < a.length) : atB (a ++ b) i = atB a i := by
  simp [atB, List.getElem?_append_left h]
theorem atB_past (a : List UInt8) (i : Nat) (h : a.length ≤ i) : atB a i = 32 := by
  simp [atB, List.getElem?_eq_none h]
theorem atB_in (a : List UInt8) (i : Nat) (h : i < a.length) : atB a i = a[i] := by
  simp [atB, h]
theorem atB_snoc (a : List UInt8) (z : UInt8) : atB (a ++ [z]) a.length = z := by
  simp [atB]

theorem same_grown (nb pad : Int) (a : List UInt8) (z : UInt8) :
    Same nb pad a (a ++ [z]) ↔ ¬ ((a.length : Int) < nb ∧ (pad ≤ a.length ∨ z ≠ 32)) := by
  constructor
  · rintro ⟨h1, h2⟩ ⟨h3, h4⟩
    simp only [sto, List.length_append, List.length_singleton] at h1
    by_cases hp : pad ≤ a.length
    · omega
    · have hz : z ≠ 32 := by rcases h4 with h4 | h4; exact absurd h4 hp; exact h4
      have := h2 a.length (by simp only [sto]; omega)
      rw [atB_snoc, atB_past a _ (Nat.le_refl _)] at this
      exact hz this.symm
  · intro h
    refine ⟨?_, ?_⟩
    · simp only [sto, List.length_append, List.length_singleton]; omega
    · intro i hi
      by_cases hl : i < a.length
      · rw [atB_append_left _ _ _ hl]
      · simp only [sto] at hi
        rw [atB_past a i (by omega)]
        by_cases he : i = a.length
        · subst he
          rw [atB_snoc]
          by_cases hz : z = 32
          · exact hz.symm
          · exact absurd ⟨by omega, Or.inr hz⟩ h
        · rw [atB_past _ i (by simp; omega)]

/-! ### the stored forms -/
def cont (nb : Int) (s : List UInt8) : List UInt8 := s.take nb.toNat
def slen (nb pad : Int) (s : List UInt8) : Int := if nb ≤ 0 then 0 else max (min pad nb) (cont nb s).length
/-- the shorter x, spaces behind it, is the longer y -/
def spread (x y : List UInt8) : Bool := y.take x.length == x && (y.drop x.length).all fun u => u == 32
def formsEq (nb pad : Int) (a b : List UInt8) : Bool :=
  slen nb pad a == slen nb pad b && (if (cont nb b).length < (cont nb a).length then spread (cont nb b) (cont nb a) else spread (cont nb a) (cont nb b))

theorem slen_sto (nb pad : Int) (s : List UInt8) (h : 0 < nb) : slen nb pad s = sto nb pad s.length := by
  simp only [slen, sto, cont, List.length_take]
  rw [if_neg (by omega)]
  omega
/-- a shorter list and a longer one: equal up to spaces just where they agree everywhere -/
theorem agr_iff (n : Nat) (x y : List UInt8) (h : x.length ≤ y.length) (hn : y.length ≤ n) :
    Agr n x y ↔ spread x y = true := by
  unfold spread
  rw [Bool.and_eq_true, beq_iff_eq, List.all_eq_true]
  simp only [beq_iff_eq]
  constructor
  · intro g
    refine ⟨?_, ?_⟩
    · apply List.ext_getElem
      · simp; omega
      · intro i h1 h2
        have := g i (by omega)
        simp only [atB, List.getD_eq_getElem?_getD] at this
        rw [List.getElem?_eq_getElem h2, List.getElem?_eq_getElem (show i < y.length by omega)] at this
        simp at this
        simp [this]
    · intro u hu
      rw [List.mem_iff_getElem] at hu
      obtain ⟨i, hi, rfl⟩ := hu
      simp at hi
      have := g (x.length + i) (by omega)
      rw [atB_past x _ (by omega)] at this
      simp only [atB, List.getD_eq_getElem?_getD] at this
      rw [List.getElem?_eq_getElem (show x.length + i < y.length by omega)] at this
      simp at this
      simp [this]
  · rintro ⟨g1, g2⟩ i hi
    by_cases h1 : i < x.length
    · have : x[i]? = y[i]? := by rw [← g1, List.getElem?_take_of_lt h1]
      simp [atB, this]
    · rw [atB_past x i (by omega)]
      by_cases h2 : i < y.length
      · simp only [atB, List.getD_eq_getElem?_getD]
        rw [List.getElem?_eq_getElem h2]
        have := g2 (y[i]) (by rw [List.mem_iff_getElem]; exact ⟨i - x.length, by simp; omega, by simp; congr 1; omega⟩)
        simp [this]
      · rw [atB_past y i (by omega)]
theorem atB_take (s : List UInt8) (m i : Nat) (h : i < m) : atB (s.take m) i = atB s i := by
  simp [atB, List.getElem?_take_of_lt h]
theorem Agr.symm {n : Nat} {a b : List UInt8} (h : Agr n a b) : Agr n b a := fun i hi => (h i hi).symm
theorem agr_comm (n : Nat) (a b : List UInt8) : Agr n a b ↔ Agr n b a := ⟨Agr.symm, Agr.symm⟩
theorem agr_cont (nb pad : Int) (a b : List UInt8) : Agr (sto nb pad a.length).toNat a b ↔ Agr (sto nb pad a.length).toNat (cont nb a) (cont nb b) := by
  unfold cont
  constructor
  · intro g i hi
    have : i < nb.toNat := by simp only [sto] at hi; omega
    rw [atB_take _ _ _ this, atB_take _ _ _ this]; exact g i hi
  · intro g i hi
    have : i < nb.toNat := by simp only [sto] at hi; omega
    have := g i hi
    rw [atB_take _ _ _ (by assumption), atB_take _ _ _ (by assumption)] at this; exact this

theorem same_forms (nb pad : Int) (a b : List UInt8) : Same nb pad a b ↔ formsEq nb pad a b = true := by
  unfold Same formsEq
  rw [Bool.and_eq_true, beq_iff_eq]
  by_cases hnb : 0 < nb
  · rw [slen_sto nb pad a hnb, slen_sto nb pad b hnb]
    refine and_congr_right fun he => ?_
    rw [agr_cont]
    have la : (cont nb a).length ≤ (sto nb pad a.length).toNat := by simp only [cont, sto, List.length_take]; omega
    have lb : (cont nb b).length ≤ (sto nb pad a.length).toNat := by rw [he]; simp only [cont, sto, List.length_take]; omega
    split
    · rw [agr_comm]
      exact agr_iff _ _ _ (by omega) la
    · exact agr_iff _ _ _ (by omega) lb
  · have e : nb.toNat = 0 := by omega
    have s : ∀ n : Nat, (sto nb pad n) = nb := fun n => by simp only [sto]; omega
    simp [slen, cont, s, e, Agr, spread, show nb ≤ 0 from by omega]

/-- THE PLAIN LAW of the first statement -/
theorem differ_forms (nb pad : Int) (a b : List UInt8) : differ nb pad a b = !formsEq nb pad a b := by
  rw [Bool.eq_iff_iff, differ_true, same_forms]; simp
/-! ### THE PLAIN LAWS of the second statement -/
theorem differ_self (nb pad : Int) (a : List UInt8) : differ nb pad a a = false := (differ_false _ _ _ _).2 (Same.refl _ _ _)
theorem differ_comm (nb pad : Int) (a b : List UInt8) : differ nb pad b a = differ nb pad a b := by
  rw [Bool.eq_iff_iff, differ_true, differ_true]
  exact ⟨fun h g => h g.symm, fun h g => h g.symm⟩
theorem differ_trans (nb pad : Int) (a b c : List UInt8) (h1 : differ nb pad a b = false) (h2 : differ nb pad b c = false) : differ nb pad a c = false := by
  rw [differ_false] at *
  exact h1.trans h2
theorem differ_grown (nb pad : Int) (a : List UInt8) (z : UInt8) :
    differ nb pad a (a ++ [z]) = (decide ((a.length : Int) < nb) && (decide (pad ≤ (a.length : Int)) || z != 32)) := by
  rw [Bool.eq_iff_iff, differ_true, same_grown, Classical.not_not, Bool.and_eq_true, Bool.or_eq_true, decide_eq_true_iff, decide_eq_true_iff, bne_iff_ne]
end Go.Proofs.Qxb6618368a.Dif
