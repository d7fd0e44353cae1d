import Derived.Test.Qxb6601444aModsLawA
namespace Go.Proofs.Qxb6601444aMods

/-- The number that a list of digits spells. -/
def val (l : List Int) : Nat := l.foldl (fun v c => v * 10 + (c - 48).toNat) 0

theorem val_snoc (l : List Int) (c : Int) : val (l ++ [c]) = val l * 10 + (c - 48).toNat := by simp [val]

theorem val_take (l : List Int) (k : Nat) (h : k < l.length) : val (l.take (k + 1)) = val (l.take k) * 10 + (l.getD k 0 - 48).toNat := by
  rw [List.take_succ_eq_append_getElem h, val_snoc]
  simp [List.getD, h]

theorem digB_iff (x : Int) : digB x = true ↔ 48 ≤ x ∧ x ≤ 57 := by simp [digB]

theorem snoc_cases (l : List Int) : l = [] ∨ ∃ r c, l = r ++ [c] := by
  rcases List.eq_nil_or_concat l with h | ⟨r, c, h⟩
  · exact .inl h
  · exact .inr ⟨r, c, by simpa using h⟩

theorem val_lt (n : Nat) (l : List Int) (hn : l.length = n) (h : l.all digB = true) : val l < 10 ^ n := by
  induction n generalizing l with
  | zero =>
    have := List.eq_nil_of_length_eq_zero hn
    subst this
    simp [val]
  | succ n ih =>
    rcases snoc_cases l with rfl | ⟨r, c, rfl⟩
    · simp at hn
    · rw [List.all_append, Bool.and_eq_true] at h
      have h1 := ih r (by simpa using hn) h.1
      have h2 : digB c = true := by simpa using h.2
      rw [digB_iff] at h2
      rw [val_snoc, Nat.pow_succ]
      omega

theorem val_pos (n : Nat) (l : List Int) (hn : l.length = n + 1) (h : l.all digB = true) (h0 : l.getD 0 0 ≠ 48) : 1 ≤ val l := by
  induction n generalizing l with
  | zero =>
    rcases snoc_cases l with rfl | ⟨r, c, rfl⟩
    · simp at hn
    · have hr : r = [] := List.eq_nil_of_length_eq_zero (by simpa using hn)
      subst hr
      have h2 : digB c = true := by simpa using h
      rw [digB_iff] at h2
      simp at h0
      rw [val_snoc]
      omega
  | succ n ih =>
    rcases snoc_cases l with rfl | ⟨r, c, rfl⟩
    · simp at hn
    · rw [List.all_append, Bool.and_eq_true] at h
      have hr : r.length = n + 1 := by simpa using hn
      have h1 := ih r hr h.1 (by rwa [List.getD_eq_getElem?_getD, List.getElem?_append_left (by omega), ← List.getD_eq_getElem?_getD] at h0)
      rw [val_snoc]
      omega

theorem digs_val (f : Nat) (l : List Int) (hne : l ≠ []) (hl : l.length ≤ f) (h : l.all digB = true) (h0 : l.getD 0 0 ≠ 48 ∨ l.length = 1) : digs f (val l) = l := by
  induction f generalizing l with
  | zero => exact absurd (List.eq_nil_of_length_eq_zero (by omega)) hne
  | succ f ih =>
    rcases snoc_cases l with rfl | ⟨r, c, rfl⟩
    · exact absurd rfl hne
    · have h' := h
      rw [List.all_append, Bool.and_eq_true] at h
      have h2 : digB c = true := by simpa using h.2
      rw [digB_iff] at h2
      rw [digs, val_snoc]
      rcases Nat.eq_zero_or_pos r.length with hr | hr
      · have hr := List.eq_nil_of_length_eq_zero hr
        subst hr
        have hv : val [] = 0 := rfl
        rw [hv, if_pos (by omega)]
        simp
        omega
      · have h3 : (r ++ [c]).getD 0 0 ≠ 48 := by
          rcases h0 with h0 | h0
          · exact h0
          · rw [List.length_append] at h0; simp only [List.length_cons, List.length_nil] at h0; omega
        have h4 : r.getD 0 0 ≠ 48 := by rwa [List.getD_eq_getElem?_getD, List.getElem?_append_left (by omega), ← List.getD_eq_getElem?_getD] at h3
        have hp := val_pos (r.length - 1) r (by omega) h.1 h4
        rw [if_neg (by omega)]
        have e1 : (val r * 10 + (c - 48).toNat) / 10 = val r := by omega
        have e2 : (48 : Int) + ((val r * 10 + (c - 48).toNat : Nat) : Int) % 10 = c := by omega
        rw [e1, e2, ih r (fun e => by subst e; simp at hr) (by simp at hl; omega) h.1 (.inl h4)]

/-- Does the text open with a minus sign? -/
def negB (xs : List Int) : Bool := decide (xs.getD 0 0 = 45)

/-- What 'isRenderingBelow1e18' answers. -/
def isR (xs : List Int) : Bool :=
  if xs.length = 0 ∨ 19 < xs.length then false else if (trim xs).length = 0 then false
  else if (trim xs).all digB = false then false else if 1000000000000000000 ≤ val (trim xs) then false
  else decide (render (negB xs) (val (trim xs)) = xs)

theorem trim_neg {xs : List Int} (h : negB xs = true) : xs = 45 :: trim xs := by
  cases xs with
  | nil => simp [negB] at h
  | cons x r =>
    simp [negB] at h
    subst h
    simp [trim]

theorem trim_pos {xs : List Int} (h : negB xs = false) : trim xs = xs := by
  cases xs with
  | nil => rfl
  | cons x r =>
    simp [negB] at h
    simp [trim, h]

theorem dec_isR (xs : List Int) : decB xs = isR xs := by
  rw [Bool.eq_iff_iff]
  constructor
  · intro h
    unfold decB at h
    by_cases h1 : (trim xs).length = 0
    · rw [if_pos h1] at h; cases h
    · rw [if_neg h1] at h
      by_cases h2 : 18 < (trim xs).length
      · rw [if_pos h2] at h; cases h
      · rw [if_neg h2] at h
        by_cases h3 : (trim xs).getD 0 0 = 48 ∧ 1 < xs.length
        · rw [if_pos h3] at h; cases h
        · rw [if_neg h3] at h
          have hv := val_lt _ (trim xs) rfl h
          have hv2 : val (trim xs) < 10 ^ 18 := Nat.lt_of_lt_of_le hv (Nat.pow_le_pow_right (by omega) (by omega))
          have hne : trim xs ≠ [] := fun e => h1 (by rw [e]; rfl)
          cases hn : negB xs with
          | true =>
            have e := trim_neg hn
            have hl : xs.length = (trim xs).length + 1 := by
              have := congrArg List.length e
              simpa using this
            have h0 : (trim xs).getD 0 0 ≠ 48 := fun e => h3 ⟨e, by omega⟩
            have hp := val_pos ((trim xs).length - 1) (trim xs) (by omega) h h0
            unfold isR
            rw [if_neg (by omega), if_neg h1, h, if_neg (by simp), if_neg (by omega), hn, render_yes ⟨rfl, by omega⟩, digs_val 20 (trim xs) hne (by omega) h (.inl h0)]
            exact decide_eq_true e.symm
          | false =>
            have e := trim_pos hn
            rw [e] at h1 h2 h3 h hv hv2 hne
            unfold isR
            rw [e, if_neg (by omega), if_neg h1, h, if_neg (by simp), if_neg (by omega), hn, render_no (by simp), digs_val 20 xs hne (by omega) h (by
              by_cases h5 : xs.getD 0 0 = 48
              · right; have : ¬ 1 < xs.length := fun h6 => h3 ⟨h5, h6⟩
                omega
              · exact .inl h5)]
            exact decide_eq_true rfl
  · intro h
    unfold isR at h
    by_cases h1 : xs.length = 0 ∨ 19 < xs.length
    · rw [if_pos h1] at h; cases h
    · rw [if_neg h1] at h
      by_cases h2 : (trim xs).length = 0
      · rw [if_pos h2] at h; cases h
      · rw [if_neg h2] at h
        by_cases h3 : (trim xs).all digB = false
        · rw [if_pos h3] at h; cases h
        · rw [if_neg h3] at h
          by_cases h4 : 1000000000000000000 ≤ val (trim xs)
          · rw [if_pos h4] at h; cases h
          · rw [if_neg h4] at h
            have e := of_decide_eq_true h
            rw [← e, dec_render _ _ (by omega)]
            exact decide_eq_true (by omega)

end Go.Proofs.Qxb6601444aMods
