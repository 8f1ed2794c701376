namespace Go.Proofs.Qxb6604245a.Plain

/-- One of '0' to '9'. -/
def dig (c : UInt8) : Bool := decide (48 ≤ c.toNat) && decide (c.toNat ≤ 57)
/-- Not empty, and digits alone. -/
def isDec (l : List UInt8) : Bool := !l.isEmpty && l.all dig
/-- How many digits. -/
def cnt (l : List UInt8) : Nat := (l.filter dig).length

theorem cnt_le (l : List UInt8) : cnt l ≤ l.length := List.length_filter_le _ _
theorem cnt_snoc (l : List UInt8) (c : UInt8) : cnt (l ++ [c]) = cnt l + if dig c = true then 1 else 0 := by
  unfold cnt
  rw [List.filter_append, List.length_append]
  by_cases h : dig c = true <;> simp [h]

theorem cnt_eq_iff (l : List UInt8) : cnt l = l.length ↔ l.all dig = true := by
  unfold cnt
  rw [List.length_filter_eq_length_iff, List.all_eq_true]

theorem count_law (l : List UInt8) : (decide (0 < cnt l) && decide (cnt l = l.length)) = isDec l := by
  have h := cnt_eq_iff l
  unfold isDec
  rw [Bool.eq_iff_iff]
  simp only [Bool.and_eq_true, decide_eq_true_eq, Bool.not_eq_true', List.isEmpty_eq_false_iff]
  rw [h]
  constructor
  · rintro ⟨h1, h2⟩
    refine ⟨?_, h2⟩
    rintro rfl
    simp [cnt] at h1
  · rintro ⟨h1, h2⟩
    have := List.length_pos_iff.2 h1
    have := h.2 h2
    exact ⟨by omega, h2⟩

theorem all_snoc (l : List UInt8) (c : UInt8) : (l ++ [c]).all dig = (l.all dig && dig c) := by simp

end Go.Proofs.Qxb6604245a.Plain
