namespace Go.Proofs.Qxb6601444aMods

/-- The sign of a hexadecimal digit. -/
def hexd (d : Int) : Int := if d < 10 then 48 + d else 87 + d

/-- A byte that stands for itself. -/
def raw (c : Int) : Prop := 32 ≤ c ∧ c ≠ 34 ∧ c ≠ 92

/-- How one byte is written. -/
def esc1 (c : Int) : List Int :=
  if 32 ≤ c ∧ c ≠ 34 ∧ c ≠ 92 then [c] else if c = 34 ∨ c = 92 then [92, c] else if c = 10 then [92, 110] else [92, 117, 48, 48, hexd (c / 16), hexd (c % 16)]

def esc (l : List Int) : List Int := l.flatMap esc1

theorem esc1_raw {c : Int} (h : raw c) : esc1 c = [c] := if_pos h
theorem esc1_two {c : Int} (h : c = 34 ∨ c = 92) : esc1 c = [92, c] := by
  unfold esc1
  rw [if_neg (by omega), if_pos h]
theorem esc1_nl : esc1 10 = [92, 110] := rfl
theorem esc1_six {c : Int} (h1 : c < 32) (h2 : c ≠ 10) : esc1 c = [92, 117, 48, 48, hexd (c / 16), hexd (c % 16)] := by
  unfold esc1
  rw [if_neg (by omega), if_neg (by omega), if_neg h2]

theorem esc_snoc (l : List Int) (c : Int) : esc (l ++ [c]) = esc l ++ esc1 c := by simp [esc]

theorem esc1_length (c : Int) : 1 ≤ (esc1 c).length ∧ (esc1 c).length ≤ 6 := by
  unfold esc1
  split
  · simp
  · split
    · simp
    · split <;> simp

theorem esc_length (l : List Int) : (esc l).length ≤ 6 * l.length := by
  induction l with
  | nil => simp [esc]
  | cons c r ih =>
    have := (esc1_length c).2
    simp only [esc, List.flatMap_cons, List.length_append, List.length_cons] at ih ⊢
    omega

theorem take_snoc (l : List Int) (k : Nat) (h : k < l.length) : l.take (k + 1) = l.take k ++ [l.getD k 0] := by
  rw [List.take_succ_eq_append_getElem h]
  simp [List.getD, h]

/-- What the loop holds: what is pending is written as it stands. -/
def Pend (l : List Int) (st k : Nat) : Prop := esc (l.take k) = esc (l.take st) ++ (l.drop st).take (k - st)

theorem pend_start (l : List Int) (k : Nat) : Pend l k k := by simp [Pend]

theorem pend_raw {l : List Int} {st k : Nat} (h : Pend l st k) (hs : st ≤ k) (hk : k < l.length) (hr : raw (l.getD k 0)) : Pend l st (k + 1) := by
  unfold Pend at h ⊢
  rw [take_snoc l k hk, esc_snoc, h, esc1_raw hr, List.append_assoc]
  congr 1
  have e : k + 1 - st = (k - st) + 1 := by omega
  rw [e, take_snoc (l.drop st) (k - st) (by simp; omega)]
  congr 1
  simp [List.getD, show st + (k - st) = k by omega]

theorem pend_esc {l : List Int} {st k : Nat} (h : Pend l st k) (hk : k < l.length) (acc : List Int) :
    (acc ++ esc (l.take st)) ++ (l.drop st).take (k - st) ++ esc1 (l.getD k 0) = acc ++ esc (l.take (k + 1)) := by
  unfold Pend at h
  rw [take_snoc l k hk, esc_snoc, h]
  simp

theorem pend_end {l : List Int} {st : Nat} (h : Pend l st l.length) (acc : List Int) : (acc ++ esc (l.take st)) ++ l.drop st = acc ++ esc l := by
  unfold Pend at h
  have e : (l.drop st).take (l.length - st) = l.drop st := List.take_of_length_le (by simp)
  rw [List.take_length, e] at h
  rw [h, List.append_assoc]

end Go.Proofs.Qxb6601444aMods
