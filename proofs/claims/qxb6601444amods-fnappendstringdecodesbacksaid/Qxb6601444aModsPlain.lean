namespace Go.Proofs.Qxb6601444aMods

/-- The decimal digits of m, as bytes, the most significant first (with fuel f). -/
def digs : Nat → Nat → List Int
  | 0, _ => []
  | f + 1, m => if m < 10 then [48 + (m : Int)] else digs f (m / 10) ++ [48 + (m : Int) % 10]

theorem digs_last (i m : Nat) (acc l : List Int) (hi : 2 ≤ i) (hz : m / 10 = 0) (h : digs (i - 1) m ++ acc = l) : (48 + (m : Int) % 10) :: acc = l := by
  obtain ⟨f, rfl⟩ : ∃ f, i = f + 2 := ⟨i - 2, by omega⟩
  have e : f + 2 - 1 = f + 1 := by omega
  rw [e, digs, if_pos (by omega)] at h
  have e2 : (m : Int) % 10 = m := by omega
  rw [e2]
  exact h

theorem digs_step (i m : Nat) (acc l : List Int) (hi : 2 ≤ i) (hz : ¬ m / 10 = 0) (h : digs (i - 1) m ++ acc = l) : digs (i - 1 - 1) (m / 10) ++ ((48 + (m : Int) % 10) :: acc) = l := by
  obtain ⟨f, rfl⟩ : ∃ f, i = f + 2 := ⟨i - 2, by omega⟩
  have e : f + 2 - 1 = f + 1 := by omega
  rw [e, digs, if_neg (by omega)] at h
  rw [e, Nat.add_sub_cancel, ← h]
  simp

theorem pow_step (i m : Nat) (hi : 2 ≤ i) (hz : ¬ m / 10 = 0) (h : m < 10 ^ (i - 1)) : 2 ≤ i - 1 ∧ m / 10 < 10 ^ (i - 1 - 1) := by
  obtain ⟨f, rfl⟩ : ∃ f, i = f + 2 := ⟨i - 2, by omega⟩
  have e : f + 2 - 1 = f + 1 := by omega
  rw [e] at h ⊢
  rw [Nat.add_sub_cancel]
  rw [Nat.pow_succ] at h
  constructor
  · cases f with
    | zero => simp at h; omega
    | succ f => omega
  · omega

/-- The canonical rendering. -/
def render (neg : Bool) (mag : Nat) : List Int := if neg = true ∧ mag ≠ 0 then 45 :: digs 20 mag else digs 20 mag

theorem render_yes {neg : Bool} {mag : Nat} (h : neg = true ∧ mag ≠ 0) : render neg mag = 45 :: digs 20 mag := if_pos h
theorem render_no {neg : Bool} {mag : Nat} (h : ¬ (neg = true ∧ mag ≠ 0)) : render neg mag = digs 20 mag := if_neg h

theorem digs_range (f m : Nat) : ∀ x ∈ digs f m, 48 ≤ x ∧ x ≤ 57 := by
  induction f generalizing m with
  | zero => simp [digs]
  | succ f ih =>
    intro x hx
    rw [digs] at hx
    by_cases h : m < 10
    · rw [if_pos h] at hx
      simp at hx
      omega
    · rw [if_neg h, List.mem_append] at hx
      rcases hx with hx | hx
      · exact ih _ x hx
      · simp at hx
        omega

theorem digs_pos (f m : Nat) : 1 ≤ (digs (f + 1) m).length := by
  rw [digs]
  by_cases h : m < 10
  · rw [if_pos h]; simp
  · rw [if_neg h]; simp

/-- The number of digits. -/
theorem digs_lt (f m k : Nat) (hm : m < 10 ^ f) (hk : 1 ≤ k) : (digs f m).length ≤ k ↔ m < 10 ^ k := by
  induction f generalizing m k with
  | zero => simp at hm; subst hm; simp [digs]; exact Nat.pow_pos (by omega)
  | succ f ih =>
    rw [digs]
    by_cases h : m < 10
    · rw [if_pos h]
      obtain ⟨j, rfl⟩ : ∃ j, k = j + 1 := ⟨k - 1, by omega⟩
      have : 1 ≤ 10 ^ j := Nat.pow_pos (by omega)
      rw [Nat.pow_succ]
      simp
      omega
    · rw [if_neg h]
      rw [Nat.pow_succ] at hm
      by_cases h1 : k = 1
      · subst h1
        have : 1 ≤ (digs f (m / 10)).length := by
          cases f with
          | zero => simp at hm; omega
          | succ f => exact digs_pos f _
        rw [List.length_append, Nat.pow_one]
        simp only [List.length_cons, List.length_nil]
        omega
      · obtain ⟨j, rfl⟩ : ∃ j, k = j + 1 := ⟨k - 1, by omega⟩
        have := ih (m / 10) j (by omega) (by omega)
        rw [Nat.pow_succ]
        simp
        omega

/-- The leading digit is 0 only for 0. -/
theorem digs_lead (f m : Nat) (hm : m < 10 ^ f) (h0 : m ≠ 0) : (digs f m).getD 0 0 ≠ 48 := by
  induction f generalizing m with
  | zero => simp at hm; omega
  | succ f ih =>
    rw [digs]
    by_cases h : m < 10
    · rw [if_pos h]
      simp
      omega
    · rw [if_neg h]
      rw [Nat.pow_succ] at hm
      have h2 := ih (m / 10) (by omega) (by omega)
      have h3 : 1 ≤ (digs f (m / 10)).length := by
        cases f with
        | zero => simp at hm; omega
        | succ f => exact digs_pos f _
      rw [List.getD_eq_getElem?_getD, List.getElem?_append_left (by omega), ← List.getD_eq_getElem?_getD]
      exact h2

end Go.Proofs.Qxb6601444aMods
