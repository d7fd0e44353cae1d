import Derived.Test.Qxb6600042aModsCyc
namespace Go.Proofs.Qxb6600042aMods

/-- The children of j among the first i domains. -/
def kidsTo (P : List Int) (i j : Nat) : List Int := ((List.range i).filter fun t => decide (P.getD t 0 = (j : Int))).map fun (t : Nat) => (t : Int)
/-- The tops among the first i domains. -/
def topsTo (P : List Int) (i : Nat) : List Int := ((List.range i).filter fun t => decide (P.getD t 0 < 0)).map fun (t : Nat) => (t : Int)
/-- Which of the first i domains are tops. -/
def topB (P : List Int) (i : Nat) : List Bool := (List.range P.length).map fun t => decide (t < i ∧ P.getD t 0 < 0)

theorem kidsTo_yes (P : List Int) (i j : Nat) (h : P.getD i 0 = (j : Int)) : kidsTo P (i + 1) j = kidsTo P i j ++ [(i : Int)] := by
  unfold kidsTo
  rw [List.range_succ, List.filter_append, List.map_append]
  congr 1
  rw [List.filter_cons, if_pos (by simpa using h)]
  rfl
theorem kidsTo_no (P : List Int) (i j : Nat) (h : P.getD i 0 ≠ (j : Int)) : kidsTo P (i + 1) j = kidsTo P i j := by
  unfold kidsTo
  rw [List.range_succ, List.filter_append, List.map_append, List.filter_cons, if_neg (by simpa using h)]
  simp
theorem topsTo_yes (P : List Int) (i : Nat) (h : P.getD i 0 < 0) : topsTo P (i + 1) = topsTo P i ++ [(i : Int)] := by
  unfold topsTo
  rw [List.range_succ, List.filter_append, List.map_append]
  congr 1
  rw [List.filter_cons, if_pos (by simpa using h)]
  rfl
theorem topsTo_no (P : List Int) (i : Nat) (h : ¬ P.getD i 0 < 0) : topsTo P (i + 1) = topsTo P i := by
  unfold topsTo
  rw [List.range_succ, List.filter_append, List.map_append, List.filter_cons, if_neg (by simpa using h)]
  simp
theorem kidsTo_le (P : List Int) (i j : Nat) : (kidsTo P i j).length ≤ i := by
  unfold kidsTo
  rw [List.length_map]
  exact Nat.le_trans (List.length_filter_le _ _) (by simp)
theorem topsTo_le (P : List Int) (i : Nat) : (topsTo P i).length ≤ i := by
  unfold topsTo
  rw [List.length_map]
  exact Nat.le_trans (List.length_filter_le _ _) (by simp)
theorem topB_length (P : List Int) (i : Nat) : (topB P i).length = P.length := by simp [topB]
theorem topB_get (P : List Int) (i t : Nat) (h : t < P.length) : (topB P i).getD t false = decide (t < i ∧ P.getD t 0 < 0) := by simp [topB, List.getD, h]
theorem topB_yes (P : List Int) (i : Nat) (h : P.getD i 0 < 0) : (topB P i).set i true = topB P (i + 1) := by
  apply List.ext_getElem (by simp [topB])
  intro t h1 h2
  rw [List.getElem_set]
  simp only [topB, List.getElem_map, List.getElem_range]
  by_cases e : i = t
  · subst e
    rw [if_pos rfl]
    exact (decide_eq_true ⟨by omega, h⟩).symm
  · rw [if_neg e]
    congr 1
    apply propext
    constructor
    · rintro ⟨a, b⟩; exact ⟨by omega, b⟩
    · rintro ⟨a, b⟩; exact ⟨by omega, b⟩
theorem topB_no (P : List Int) (i : Nat) (h : ¬ P.getD i 0 < 0) : topB P i = topB P (i + 1) := by
  apply List.ext_getElem (by simp [topB])
  intro t h1 h2
  simp only [topB, List.getElem_map, List.getElem_range]
  congr 1
  apply propext
  constructor
  · rintro ⟨a, b⟩; exact ⟨by omega, b⟩
  · rintro ⟨a, b⟩
    refine ⟨?_, b⟩
    rcases Nat.lt_or_ge t i with h3 | h3
    · exact h3
    · have : t = i := by omega
      subst this
      exact absurd b h

theorem mem_kids (P : List Int) (n j : Nat) (c : Int) : c ∈ kidsTo P n j ↔ ∃ t : Nat, t < n ∧ c = (t : Int) ∧ P.getD t 0 = (j : Int) := by
  unfold kidsTo
  simp only [List.mem_map, List.mem_filter, List.mem_range, decide_eq_true_eq]
  constructor
  · rintro ⟨t, ⟨h1, h2⟩, rfl⟩; exact ⟨t, h1, rfl, h2⟩
  · rintro ⟨t, h1, rfl, h2⟩; exact ⟨t, ⟨h1, h2⟩, rfl⟩
theorem mem_tops (P : List Int) (n : Nat) (c : Int) : c ∈ topsTo P n ↔ ∃ t : Nat, t < n ∧ c = (t : Int) ∧ P.getD t 0 < 0 := by
  unfold topsTo
  simp only [List.mem_map, List.mem_filter, List.mem_range, decide_eq_true_eq]
  constructor
  · rintro ⟨t, ⟨h1, h2⟩, rfl⟩; exact ⟨t, h1, rfl, h2⟩
  · rintro ⟨t, h1, rfl, h2⟩; exact ⟨t, ⟨h1, h2⟩, rfl⟩

/-- How many are not reached yet. -/
def off (R : List Bool) : Nat := R.countP fun b => !b

theorem off_le (R : List Bool) : off R ≤ R.length := List.countP_le_length

theorem off_set (R : List Bool) (c : Nat) (h : c < R.length) (hf : R.getD c false = false) : off (R.set c true) + 1 = off R := by
  induction R generalizing c with
  | nil => simp at h
  | cons b r ih =>
    cases c with
    | zero =>
      simp at hf
      subst hf
      simp [off]
    | succ c =>
      have := ih c (by simpa using h) (by simpa using hf)
      simp only [List.set_cons_succ, off, List.countP_cons] at this ⊢
      omega

/-- What holds while domains are searched downward; 'at': the one in hand (none: P.length). -/
structure Srch (P : List Int) (R : List Bool) (S : List Int) (x : Nat) : Prop where
  len : R.length = P.length
  sound : ∀ t, t < P.length → R.getD t false = true → Reach P (t : Int)
  stack : ∀ s ∈ S, ∃ t : Nat, s = (t : Int) ∧ t < P.length ∧ R.getD t false = true
  tops : ∀ t, t < P.length → P.getD t 0 < 0 → R.getD t false = true
  shut : ∀ t, t < P.length → t ≠ x → R.getD t false = true → (t : Int) ∈ S ∨ ∀ c, c < P.length → P.getD c 0 = (t : Int) → R.getD c false = true

theorem srch_start (P : List Int) : Srch P (topB P P.length) (topsTo P P.length) P.length := by
  refine ⟨topB_length _ _, fun t ht h => ?_, fun s hs => ?_, fun t ht h => ?_, fun t ht _ h => ?_⟩
  · rw [topB_get _ _ _ ht] at h
    have h2 := (of_decide_eq_true h).2
    exact ⟨1, by rw [upn_succ]; show stp P (t : Int) < 0; rw [stp_nat]; exact h2⟩
  · obtain ⟨t, h1, rfl, h2⟩ := (mem_tops P _ s).1 hs
    exact ⟨t, rfl, h1, by rw [topB_get _ _ _ h1]; exact decide_eq_true ⟨h1, h2⟩⟩
  · rw [topB_get _ _ _ ht]; exact decide_eq_true ⟨ht, h⟩
  · rw [topB_get _ _ _ ht] at h
    exact .inl ((mem_tops P _ _).2 ⟨t, ht, rfl, (of_decide_eq_true h).2⟩)

/-- One is taken off the stack. -/
theorem srch_pop {P : List Int} {R : List Bool} {S : List Int} {y : Int} (h : Srch P R (S ++ [y]) P.length) :
    ∃ x : Nat, y = (x : Int) ∧ x < P.length ∧ R.getD x false = true ∧ Srch P R S x := by
  obtain ⟨x, hx, hxn, hR⟩ := h.stack y (by simp)
  refine ⟨x, hx, hxn, hR, h.len, h.sound, fun s hs => h.stack s (by simp [hs]), h.tops, fun t ht hne hRt => ?_⟩
  rcases h.shut t ht (by omega) hRt with h1 | h1
  · rw [List.mem_append] at h1
    rcases h1 with h1 | h1
    · exact .inl h1
    · simp at h1; omega
  · exact .inr h1

/-- A child is reached. -/
theorem srch_push {P : List Int} {R : List Bool} {S : List Int} {x c : Nat} (h : Srch P R S x) (hx : x < P.length) (hR : R.getD x false = true) (hc : c < P.length) (hp : P.getD c 0 = (x : Int)) : Srch P (R.set c true) (S ++ [(c : Int)]) x := by
  have hcl : c < R.length := by rw [h.len]; exact hc
  have key : ∀ t, (R.set c true).getD t false = if c = t then true else R.getD t false := by
    intro t
    simp only [List.getD_eq_getElem?_getD, List.getElem?_set]
    by_cases e : c = t
    · subst e; simp [hcl]
    · simp [e]
  have mono : ∀ t, R.getD t false = true → (R.set c true).getD t false = true := by
    intro t ht
    rw [key]
    split
    · rfl
    · exact ht
  refine ⟨by simp [h.len], fun t ht h1 => ?_, fun s hs => ?_, fun t ht h1 => mono t (h.tops t ht h1), fun t ht hne h1 => ?_⟩
  · rw [key] at h1
    by_cases e : c = t
    · subst e
      refine reach_up P 1 _ ?_
      show Reach P (stp P (c : Int))
      rw [stp_nat, hp]
      exact h.sound x hx hR
    · rw [if_neg e] at h1
      exact h.sound t ht h1
  · rw [List.mem_append] at hs
    rcases hs with hs | hs
    · obtain ⟨t, h1, h2, h3⟩ := h.stack s hs
      exact ⟨t, h1, h2, mono t h3⟩
    · simp at hs
      exact ⟨c, hs, hc, by rw [key, if_pos rfl]⟩
  · rw [key] at h1
    by_cases e : c = t
    · subst e; left; simp
    · rw [if_neg e] at h1
      rcases h.shut t ht hne h1 with h2 | h2
      · left; simp [h2]
      · exact .inr (fun d hd hp => mono d (h2 d hd hp))

/-- All children of the one in hand are reached. -/
theorem srch_done {P : List Int} {R : List Bool} {S : List Int} {x : Nat} (h : Srch P R S x) (hk : ∀ c ∈ kidsTo P P.length x, R.getD c.toNat false = true) : Srch P R S P.length := by
  refine ⟨h.len, h.sound, h.stack, h.tops, fun t ht _ h1 => ?_⟩
  by_cases e : t = x
  · subst e
    right
    intro c hc hp
    have := hk (c : Int) ((mem_kids P _ _ _).2 ⟨c, hc, rfl, hp⟩)
    simpa using this
  · exact h.shut t ht e h1

theorem srch_done_ix {P : List Int} {R : List Bool} {S : List Int} {x n j : Nat} (hn : P.length = n) (h : Srch P R S x) (hj : (kidsTo P n x).length ≤ j) (hk : ∀ t, t < j → R.getD ((kidsTo P n x).getD t 0).toNat false = true) : Srch P R S n := by
  subst hn
  refine srch_done h (fun c hc => ?_)
  obtain ⟨t, ht, rfl⟩ := List.getElem_of_mem hc
  have h1 := hk t (by omega)
  have e : (kidsTo P P.length x).getD t 0 = (kidsTo P P.length x)[t] := by
    rw [List.getD_eq_getElem?_getD, List.getElem?_eq_getElem ht, Option.getD_some]
  rw [e] at h1
  exact h1

/-- At the end: just those that reach a top. -/
theorem srch_end {P : List Int} {R : List Bool} (hP : OkP P) (h : Srch P R [] P.length) : ∀ t, t < P.length → (R.getD t false = true ↔ Reach P (t : Int)) := by
  have key : ∀ k t, t < P.length → upn P k (t : Int) < 0 → R.getD t false = true := by
    intro k
    induction k with
    | zero => intro t ht hk; simp [upn] at hk; omega
    | succ k ih =>
      intro t ht hk
      rw [upn, stp_nat] at hk
      by_cases hneg : P.getD t 0 < 0
      · exact h.tops t ht hneg
      · have hlt := hP t ht
        have e : P.getD t 0 = ((P.getD t 0).toNat : Int) := by omega
        have h1 := ih (P.getD t 0).toNat (by omega) (by rw [← e]; exact hk)
        rcases h.shut _ (by omega) (by omega) h1 with h2 | h2
        · simp at h2
        · exact h2 t ht e
  intro t ht
  exact ⟨h.sound t ht, fun ⟨k, hk⟩ => key k t ht hk⟩

end Go.Proofs.Qxb6600042aMods
