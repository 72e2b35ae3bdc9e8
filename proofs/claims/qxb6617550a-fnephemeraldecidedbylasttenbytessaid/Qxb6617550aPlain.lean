namespace Go.Proofs.Qxb6617550a.Eph
def tag : List UInt8 := [35, 101, 112, 104, 101, 109, 101, 114, 97, 108]
def eph (s : List UInt8) : Bool := tag.isSuffixOf s

theorem eph_iff (s : List UInt8) : eph s = true ↔ tag <:+ s := by
  unfold eph; exact List.isSuffixOf_iff_suffix

theorem eph_tag (a : List UInt8) : eph (a ++ tag) = true := by
  rw [eph_iff]; exact List.suffix_append a tag

theorem eph_short (b : List UInt8) (h : b.length < 10) : eph b = false := by
  rw [Bool.eq_false_iff]
  intro h2
  rw [eph_iff] at h2
  have := h2.length_le
  simp [tag] at this
  omega

theorem eph_long (a b : List UInt8) (h : 10 ≤ b.length) : eph (a ++ b) = eph b := by
  rw [Bool.eq_iff_iff, eph_iff, eph_iff]
  constructor
  · intro h2
    exact List.suffix_of_suffix_length_le h2 (List.suffix_append a b) (by simp [tag]; omega)
  · intro h2
    exact h2.trans (List.suffix_append a b)

theorem border (k : Nat) (h1 : 1 ≤ k) (h9 : k ≤ 9) : tag[0]? ≠ tag[k]? := by
  match k, h1, h9 with
  | 1, _, _ => decide
  | 2, _, _ => decide
  | 3, _, _ => decide
  | 4, _, _ => decide
  | 5, _, _ => decide
  | 6, _, _ => decide
  | 7, _, _ => decide
  | 8, _, _ => decide
  | 9, _, _ => decide

theorem eph_grown (a b : List UInt8) (h1 : 1 ≤ b.length) (h9 : b.length ≤ 9) : eph (a ++ tag ++ b) = false := by
  rw [Bool.eq_false_iff]
  intro h
  rw [eph_iff] at h
  obtain ⟨t, ht⟩ := h
  have hl : t.length = a.length + b.length := by
    have := congrArg List.length ht
    simp at this
    omega
  have e1 : (t ++ tag)[a.length + b.length]? = tag[0]? := by
    rw [List.getElem?_append_right (by omega)]
    congr 1
    omega
  have e2 : (a ++ tag ++ b)[a.length + b.length]? = tag[b.length]? := by
    rw [List.append_assoc, List.getElem?_append_right (by omega), List.getElem?_append_left (by simp [tag]; omega)]
    congr 1
    omega
  rw [ht, e2] at e1
  exact border _ h1 h9 e1.symm
end Go.Proofs.Qxb6617550a.Eph
