import Derived.Test.Qxb6601444aModsEsc
namespace Go.Proofs.Qxb6601444aMods

/-- Where the writing of the k-th byte begins in the literal. -/
def at_ (ss : List Int) (k : Nat) : Nat := 1 + (esc (ss.take k)).length

theorem at_zero (ss : List Int) : at_ ss 0 = 1 := by simp [at_, esc]

theorem at_succ (ss : List Int) (k : Nat) (h : k < ss.length) : at_ ss (k + 1) = at_ ss k + (esc1 (ss.getD k 0)).length := by
  unfold at_
  rw [take_snoc ss k h, esc_snoc, List.length_append]
  omega

theorem split_at (ss : List Int) (k : Nat) (h : k < ss.length) : ss = ss.take k ++ (ss.getD k 0 :: ss.drop (k + 1)) := by
  have h1 := List.take_append_drop k ss
  rw [List.drop_eq_getElem_cons h] at h1
  have h2 : ss.getD k 0 = ss[k] := by simp [List.getD, h]
  rw [h2]
  exact h1.symm

theorem esc_append (a b : List Int) : esc (a ++ b) = esc a ++ esc b := by simp [esc]
theorem esc_cons (c : Int) (r : List Int) : esc (c :: r) = esc1 c ++ esc r := by simp [esc]

theorem q_at (ss : List Int) (k j : Nat) (h : k < ss.length) (hj : j < (esc1 (ss.getD k 0)).length) :
    (34 :: esc ss ++ [34]).getD (at_ ss k + j) 0 = (esc1 (ss.getD k 0)).getD j 0 := by
  have e : (34 :: esc ss ++ [34]) = (34 :: esc (ss.take k)) ++ (esc1 (ss.getD k 0) ++ (esc (ss.drop (k + 1)) ++ [34])) := by
    conv => lhs; rw [split_at ss k h, esc_append, esc_cons]
    simp
  rw [e, List.getD_eq_getElem?_getD, List.getElem?_append_right (by simp [at_]; omega)]
  have e2 : at_ ss k + j - (34 :: esc (ss.take k)).length = j := by simp [at_]; omega
  rw [e2, List.getElem?_append_left hj, ← List.getD_eq_getElem?_getD]

theorem q_end (ss : List Int) : (34 :: esc ss ++ [34]).getD (at_ ss ss.length) 0 = 34 ∧ (34 :: esc ss ++ [34]).length = at_ ss ss.length + 1 := by
  constructor
  · rw [List.getD_eq_getElem?_getD, List.getElem?_append_right (by simp [at_]; omega)]
    simp [at_, Nat.add_comm]
  · simp [at_]; omega

theorem at_lt (ss : List Int) (k : Nat) (h : k < ss.length) : at_ ss k + (esc1 (ss.getD k 0)).length < (34 :: esc ss ++ [34]).length := by
  have e := congrArg esc (split_at ss k h)
  rw [esc_append, esc_cons] at e
  have := congrArg List.length e
  simp only [List.length_append, List.length_cons, List.length_nil, at_] at this ⊢
  omega

end Go.Proofs.Qxb6601444aMods
