namespace Go.Proofs.Qxb6601975aMods

/-- The digits ahead of the last, in base 128, the top bit set on each (with fuel f). -/
def vd : Nat → Nat → List Int
  | 0, _ => []
  | f + 1, v => if v = 0 then [] else vd f (v / 128) ++ [(v : Int) % 128 + 128]

/-- The encoding. -/
def enc (v : Nat) : List Int := vd 9 (v / 128) ++ [(v : Int) % 128]

theorem vd_step (i v : Nat) (acc l : List Int) (hi : 1 ≤ i) (hz : v ≠ 0) (h : vd i v ++ acc = l) : vd (i - 1) (v / 128) ++ (((v : Int) % 128 + 128) :: acc) = l := by
  obtain ⟨f, rfl⟩ : ∃ f, i = f + 1 := ⟨i - 1, by omega⟩
  rw [vd, if_neg hz] at h
  rw [Nat.add_sub_cancel, ← h]
  simp

theorem vd_zero (i : Nat) (acc l : List Int) (h : vd i 0 ++ acc = l) : acc = l := by
  cases i with
  | zero => simpa [vd] using h
  | succ f => simpa [vd] using h

theorem pow_step (i v : Nat) (hz : v ≠ 0) (h : v < 128 ^ i) : 1 ≤ i ∧ v / 128 < 128 ^ (i - 1) := by
  cases i with
  | zero => simp at h; omega
  | succ f =>
    rw [Nat.pow_succ] at h
    rw [Nat.add_sub_cancel]
    omega

/-- How many. -/
theorem vd_le (f v k : Nat) (hv : v < 128 ^ f) : (vd f v).length ≤ k ↔ v < 128 ^ k := by
  induction f generalizing v k with
  | zero =>
    simp at hv
    subst hv
    simp [vd]
    exact Nat.pow_pos (by omega)
  | succ f ih =>
    rw [vd]
    by_cases h : v = 0
    · rw [if_pos h]
      subst h
      simp
      exact Nat.pow_pos (by omega)
    · rw [if_neg h]
      rw [Nat.pow_succ] at hv
      rw [List.length_append]
      simp only [List.length_cons, List.length_nil]
      cases k with
      | zero => simp; omega
      | succ k =>
        have := ih (v / 128) k (by omega)
        rw [Nat.pow_succ]
        omega

theorem div_bd (v : Nat) (h : v < 18446744073709551616) : v / 128 < 128 ^ 9 := by
  have : (128 : Nat) ^ 9 = 9223372036854775808 := by decide
  omega

theorem enc_le (v k : Nat) (h : v < 18446744073709551616) (hk : 1 ≤ k) : (enc v).length ≤ k ↔ v < 128 ^ k := by
  obtain ⟨j, rfl⟩ : ∃ j, k = j + 1 := ⟨k - 1, by omega⟩
  have := vd_le 9 (v / 128) j (div_bd v h)
  unfold enc
  rw [List.length_append, Nat.pow_succ]
  simp only [List.length_cons, List.length_nil]
  omega

theorem enc_pos (v : Nat) : 1 ≤ (enc v).length := by simp [enc]

theorem enc_ten (v : Nat) (h : v < 18446744073709551616) : (enc v).length ≤ 10 := by
  rw [enc_le v 10 h (by omega)]
  have : (128 : Nat) ^ 10 = 1180591620717411303424 := by decide
  omega

theorem enc_one (v : Nat) (h : v < 18446744073709551616) : (enc v).length = 1 ↔ v < 128 := by
  have h1 := enc_le v 1 h (by omega)
  have h2 := enc_pos v
  rw [Nat.pow_one] at h1
  omega

theorem enc_full (v : Nat) (h : v < 18446744073709551616) : (enc v).length = 10 ↔ 9223372036854775808 ≤ v := by
  have h1 := enc_le v 9 h (by omega)
  have h2 := enc_ten v h
  have : (128 : Nat) ^ 9 = 9223372036854775808 := by decide
  omega

theorem enc_mono (u v : Nat) (hv : v < 18446744073709551616) (h : u ≤ v) : (enc u).length ≤ (enc v).length := by
  have h1 := (enc_le v (enc v).length hv (enc_pos v)).1 (Nat.le_refl _)
  exact (enc_le u (enc v).length (by omega) (enc_pos v)).2 (by omega)

/-- The j-th digit from the end. -/
theorem vd_get (f v j : Nat) (hj : j < (vd f v).length) : (vd f v).getD ((vd f v).length - 1 - j) 0 = ((v / 128 ^ j : Nat) : Int) % 128 + 128 := by
  induction f generalizing v j with
  | zero => simp [vd] at hj
  | succ f ih =>
    by_cases h : v = 0
    · subst h; simp [vd] at hj
    · have e : vd (f + 1) v = vd f (v / 128) ++ [(v : Int) % 128 + 128] := by rw [vd, if_neg h]
      rw [e] at hj ⊢
      rw [List.length_append] at hj ⊢
      simp only [List.length_cons, List.length_nil] at hj ⊢
      cases j with
      | zero =>
        have e2 : (vd f (v / 128)).length + (0 + 1) - 1 - 0 = (vd f (v / 128)).length := by omega
        rw [e2, List.getD_eq_getElem?_getD, List.getElem?_append_right (Nat.le_refl _)]
        simp
      | succ j =>
        have e2 : (vd f (v / 128)).length + (0 + 1) - 1 - (j + 1) = (vd f (v / 128)).length - 1 - j := by omega
        rw [e2, List.getD_eq_getElem?_getD, List.getElem?_append_left (by omega), ← List.getD_eq_getElem?_getD, ih (v / 128) j (by omega), Nat.div_div_eq_div_mul, Nat.pow_succ, Nat.mul_comm]

theorem enc_last (v : Nat) : (enc v).getD ((enc v).length - 1) 0 = (v : Int) % 128 := by
  unfold enc
  rw [List.length_append]
  simp

/-- Digit i of the encoding: its top bit, and its seven bits. -/
theorem enc_get (v i : Nat) (hi : i < (enc v).length) : (enc v).getD i 0 = ((v / 128 ^ ((enc v).length - 1 - i) : Nat) : Int) % 128 + (if i < (enc v).length - 1 then 128 else 0) := by
  by_cases h : i < (enc v).length - 1
  · rw [if_pos h]
    have hl : (enc v).length = (vd 9 (v / 128)).length + 1 := by simp [enc]
    have h1 := vd_get 9 (v / 128) ((vd 9 (v / 128)).length - 1 - i) (by omega)
    rw [show (vd 9 (v / 128)).length - 1 - ((vd 9 (v / 128)).length - 1 - i) = i by omega] at h1
    have e : (enc v).getD i 0 = (vd 9 (v / 128)).getD i 0 := by
      unfold enc
      rw [List.getD_eq_getElem?_getD, List.getElem?_append_left (by omega), ← List.getD_eq_getElem?_getD]
    rw [e, h1, Nat.div_div_eq_div_mul]
    have e2 : 128 * 128 ^ ((vd 9 (v / 128)).length - 1 - i) = 128 ^ ((enc v).length - 1 - i) := by
      rw [Nat.mul_comm, ← Nat.pow_succ]
      congr 1
      omega
    rw [e2]
  · rw [if_neg h]
    have e : i = (enc v).length - 1 := by omega
    have e2 : (enc v).length - 1 - i = 0 := by omega
    rw [e2]
    conv => lhs; rw [e]
    rw [enc_last]
    simp

theorem enc_range (v : Nat) : ∀ x ∈ enc v, 0 ≤ x ∧ x < 256 := by
  intro x hx
  obtain ⟨i, hi, rfl⟩ := List.getElem_of_mem hx
  have := enc_get v i hi
  rw [List.getD_eq_getElem?_getD, List.getElem?_eq_getElem hi, Option.getD_some] at this
  rw [this]
  split <;> omega

/-- What has been read behind j digits. -/
def rd (v j : Nat) : Nat := v / 128 ^ ((enc v).length - j)

theorem rd_zero (v : Nat) (h : v < 18446744073709551616) : rd v 0 = 0 := by
  have h1 := (enc_le v (enc v).length h (enc_pos v)).1 (Nat.le_refl _)
  exact Nat.div_eq_of_lt h1

theorem rd_full (v : Nat) : rd v (enc v).length = v := by simp [rd]

theorem rd_step (v j : Nat) (hj : j < (enc v).length) : (rd v (j + 1) : Int) = (rd v j : Int) * 128 + (enc v).getD j 0 % 128 := by
  rw [enc_get v j hj]
  unfold rd
  have e : (enc v).length - j = ((enc v).length - 1 - j) + 1 := by omega
  have e2 : (enc v).length - (j + 1) = (enc v).length - 1 - j := by omega
  rw [e2, e, Nat.pow_succ, ← Nat.div_div_eq_div_mul]
  generalize v / 128 ^ ((enc v).length - 1 - j) = x
  split <;> omega

theorem rd_small (v j : Nat) (h : v < 18446744073709551616) (hj : j < (enc v).length) : rd v j < 144115188075855872 := by
  unfold rd
  have e : (enc v).length - j = ((enc v).length - 1 - j) + 1 := by omega
  rw [e, Nat.pow_succ, Nat.mul_comm, ← Nat.div_div_eq_div_mul]
  have := Nat.div_le_self (v / 128) (128 ^ ((enc v).length - 1 - j))
  omega

theorem enc_high (v i : Nat) (hi : i < (enc v).length - 1) : 128 ≤ (enc v).getD i 0 := by
  rw [enc_get v i (by omega), if_pos hi]
  omega

theorem enc_low (v : Nat) : (enc v).getD ((enc v).length - 1) 0 < 128 := by
  rw [enc_last]
  omega

/-- No leading zero digit. -/
theorem enc_head (v : Nat) (h : v < 18446744073709551616) (hl : 1 < (enc v).length) : (enc v).getD 0 0 ≠ 128 := by
  rw [enc_get v 0 (by omega), if_pos (by omega)]
  have h1 := enc_le v ((enc v).length - 1) h (by omega)
  have h2 : ¬ v < 128 ^ ((enc v).length - 1) := by omega
  have h3 := (enc_le v (enc v).length h (enc_pos v)).1 (Nat.le_refl _)
  have e : (enc v).length = ((enc v).length - 1) + 1 := by omega
  have hp : 0 < 128 ^ ((enc v).length - 1) := Nat.pow_pos (by omega)
  rw [e, Nat.pow_succ] at h3
  rw [Nat.sub_zero]
  generalize (128 : Nat) ^ ((enc v).length - 1) = T at h2 h3 hp
  have h4 : 1 ≤ v / T := (Nat.le_div_iff_mul_le hp).2 (by omega)
  have h5 : v / T < 128 := (Nat.div_lt_iff_lt_mul hp).2 (by rw [Nat.mul_comm]; omega)
  omega

/-- Equal bytes, equal values. -/
theorem rd_eq (u v : Nat) (hu : u < 18446744073709551616) (hv : v < 18446744073709551616) (hl : (enc u).length = (enc v).length) (h : ∀ i, i < (enc u).length → (enc u).getD i 0 = (enc v).getD i 0) : u = v := by
  have key : ∀ j, j ≤ (enc u).length → rd u j = rd v j := by
    intro j
    induction j with
    | zero => intro _; rw [rd_zero u hu, rd_zero v hv]
    | succ j ih =>
      intro hj
      have h1 := ih (by omega)
      have h2 := rd_step u j (by omega)
      have h3 := rd_step v j (by omega)
      rw [h j (by omega), h1] at h2
      omega
  have h1 := key (enc u).length (Nat.le_refl _)
  rw [rd_full] at h1
  rw [h1, hl, rd_full]

/-- For different values neither is the beginning of the other. -/
theorem enc_differ (u v : Nat) (hu : u < 18446744073709551616) (hv : v < 18446744073709551616) (hne : u ≠ v) : ¬ ∀ i, i < min (enc u).length (enc v).length → (enc u).getD i 0 = (enc v).getD i 0 := by
  intro h
  have pu := enc_pos u
  have pv := enc_pos v
  rcases Nat.lt_trichotomy (enc u).length (enc v).length with hl | hl | hl
  · have h1 := h ((enc u).length - 1) (by omega)
    have h2 := enc_low u
    have h3 := enc_high v ((enc u).length - 1) (by omega)
    omega
  · exact hne (rd_eq u v hu hv hl (fun i hi => h i (by omega)))
  · have h1 := h ((enc v).length - 1) (by omega)
    have h2 := enc_low v
    have h3 := enc_high u ((enc v).length - 1) (by omega)
    omega

end Go.Proofs.Qxb6601975aMods
