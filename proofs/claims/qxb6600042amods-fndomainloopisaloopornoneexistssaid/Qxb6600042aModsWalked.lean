import Derived.Test.Qxb6600042aModsCyc
namespace Go.Proofs.Qxb6600042aMods

theorem getD_set' (l : List Int) (i j : Nat) (x : Int) (h : i < l.length) : (l.set i x).getD j 0 = if i = j then x else l.getD j 0 := by
  simp only [List.getD_eq_getElem?_getD, List.getElem?_set]
  by_cases e : i = j
  · subst e; simp [h]
  · simp [e]

/-- What 'walked' holds at the head of the walk from i. -/
structure Outer (P W : List Int) (i : Nat) : Prop where
  len : W.length = P.length
  vals : ∀ j, j < P.length → W.getD j 0 = 0 ∨ W.getD j 0 = 1
  top : ∀ j, j < P.length → W.getD j 0 = 1 → Reach P (j : Int)
  past : ∀ j, j < i → W.getD j 0 = 1

/-- The walk from i has come k steps up. -/
structure Path (P W0 W : List Int) (i k : Nat) : Prop where
  len : W.length = P.length
  rng : ∀ m, m < k → 0 ≤ upn P m (i : Int) ∧ upn P m (i : Int) < (P.length : Int)
  inj : ∀ a b, a < b → b < k → upn P a (i : Int) ≠ upn P b (i : Int)
  on : ∀ m, m < k → W.getD (upn P m (i : Int)).toNat 0 = 2 + (i : Int)
  off : ∀ j : Nat, j < P.length → (∀ m, m < k → upn P m (i : Int) ≠ (j : Int)) → W.getD j 0 = W0.getD j 0

theorem path_start {P W0 : List Int} {i : Nat} (h : Outer P W0 i) : Path P W0 W0 i 0 :=
  ⟨h.len, fun m h => by omega, fun a b _ h => by omega, fun m h => by omega, fun _ _ _ => rfl⟩

theorem Path.le {P W0 W : List Int} {i k : Nat} (h : Path P W0 W i k) : k ≤ P.length := by
  refine pigeon P.length k (fun m => (upn P m (i : Int)).toNat) (fun m hm => ?_) (fun a b hab hb => ?_)
  · show (upn P m (i : Int)).toNat < P.length
    have := h.rng m hm
    omega
  · show (upn P a (i : Int)).toNat ≠ (upn P b (i : Int)).toNat
    have h1 := h.rng a (by omega)
    have h2 := h.rng b hb
    have h3 := h.inj a b hab hb
    omega

theorem path_step {P W0 W : List Int} {i k q : Nat} (h : Path P W0 W i k) (hq : (q : Int) = upn P k (i : Int)) (hqn : q < P.length) (hz : W.getD q 0 = 0) : Path P W0 (W.set q (2 + (i : Int))) i (k + 1) := by
  have hnot : ∀ m, m < k → upn P m (i : Int) ≠ (q : Int) := by
    intro m hm e
    have := h.on m hm
    rw [e, Int.toNat_natCast, hz] at this
    omega
  have hql : q < W.length := by rw [h.len]; exact hqn
  refine ⟨by simp [h.len], fun m hm => ?_, fun a b hab hb => ?_, fun m hm => ?_, fun j hj hout => ?_⟩
  · by_cases e : m = k
    · subst e; rw [← hq]; omega
    · exact h.rng m (by omega)
  · by_cases e : b = k
    · subst e; rw [← hq]; exact hnot a hab
    · exact h.inj a b hab (by omega)
  · rw [getD_set' _ _ _ _ hql]
    by_cases e : m = k
    · subst e; rw [← hq, Int.toNat_natCast, if_pos rfl]
    · have h1 := h.rng m (by omega)
      have h2 := hnot m (by omega)
      rw [if_neg (by omega)]
      exact h.on m (by omega)
  · rw [getD_set' _ _ _ _ hql]
    have h1 := hout k (by omega)
    rw [← hq] at h1
    rw [if_neg (by omega)]
    exact h.off j hj (fun m hm => hout m (by omega))

/-- The walk has met itself: a loop. -/
theorem path_cyc {P W0 W : List Int} {i k q : Nat} (ho : Outer P W0 i) (h : Path P W0 W i k) (hq : (q : Int) = upn P k (i : Int)) (hqn : q < P.length) (hz : W.getD q 0 = 2 + (i : Int)) : ∃ p, Cyc P (q : Int) p := by
  by_cases hin : ∃ m, m < k ∧ upn P m (i : Int) = (q : Int)
  · obtain ⟨m, hm, e⟩ := hin
    refine exists_cyc (p := k - m) (by omega) (by omega) ?_
    rw [← e, ← upn_add, show k - m + m = k by omega, ← hq, e]
  · have h1 := h.off q hqn (fun m hm e => hin ⟨m, hm, e⟩)
    rw [hz] at h1
    have := ho.vals q hqn
    omega

/-- Where the walk stops otherwise, all that it passed lies under a top. -/
theorem path_reach {P W0 W : List Int} {i k : Nat} (ho : Outer P W0 i) (h : Path P W0 W i k) (hk : upn P k (i : Int) < 0 ∨ ∃ q : Nat, (q : Int) = upn P k (i : Int) ∧ q < P.length ∧ W.getD q 0 ≠ 0 ∧ W.getD q 0 ≠ 2 + (i : Int)) :
    Reach P (upn P k (i : Int)) ∧ ∀ q : Nat, (q : Int) = upn P k (i : Int) → q < P.length → (∀ m, m < k → upn P m (i : Int) ≠ (q : Int)) ∧ W0.getD q 0 = 1 := by
  rcases hk with hk | ⟨q, hq, hqn, h0, h2⟩
  · refine ⟨reach_neg P _ hk, fun q hq _ => ?_⟩
    omega
  · have hout : ∀ m, m < k → upn P m (i : Int) ≠ (q : Int) := by
      intro m hm e
      have h1 := h.on m hm
      rw [e, Int.toNat_natCast] at h1
      exact h2 h1
    have h1 := h.off q hqn hout
    have h3 := ho.vals q hqn
    have h4 : W0.getD q 0 = 1 := by
      rcases h3 with h3 | h3
      · rw [h3] at h1; exact absurd h1 h0
      · exact h3
    refine ⟨?_, fun q' hq' _ => ?_⟩
    · rw [← hq]; exact ho.top q hqn h4
    · have : q' = q := by omega
      subst this
      exact ⟨hout, h4⟩

/-- The second walk up from i has come m steps. -/
structure Back (P W0 V : List Int) (i k m : Nat) : Prop where
  len : V.length = P.length
  done : ∀ t, t < m → V.getD (upn P t (i : Int)).toNat 0 = 1
  todo : ∀ t, m ≤ t → t < k → V.getD (upn P t (i : Int)).toNat 0 = 2 + (i : Int)
  off : ∀ j : Nat, j < P.length → (∀ t, t < k → upn P t (i : Int) ≠ (j : Int)) → V.getD j 0 = W0.getD j 0

theorem back_start {P W0 W : List Int} {i k : Nat} (h : Path P W0 W i k) : Back P W0 W i k 0 :=
  ⟨h.len, fun t h => by omega, fun t _ ht => h.on t ht, h.off⟩

theorem back_step {P W0 W V : List Int} {i k m q : Nat} (hp : Path P W0 W i k) (h : Back P W0 V i k m) (hm : m < k) (hq : (q : Int) = upn P m (i : Int)) : Back P W0 (V.set q 1) i k (m + 1) := by
  have hqn := (hp.rng m hm).2
  have hql : q < V.length := by rw [h.len]; omega
  refine ⟨by simp [h.len], fun t ht => ?_, fun t ht1 ht2 => ?_, fun j hj hout => ?_⟩
  · rw [getD_set' _ _ _ _ hql]
    by_cases e : q = (upn P t (i : Int)).toNat
    · rw [if_pos e]
    · rw [if_neg e]
      by_cases e2 : t = m
      · subst e2; omega
      · exact h.done t (by omega)
  · rw [getD_set' _ _ _ _ hql]
    have h1 := hp.inj m t (by omega) ht2
    have h2 := hp.rng t ht2
    rw [if_neg (by omega)]
    exact h.todo t (by omega) ht2
  · rw [getD_set' _ _ _ _ hql]
    have h1 := hout m hm
    rw [if_neg (by omega)]
    exact h.off j hj hout

theorem back_end {P W0 W V : List Int} {i k : Nat} (ho : Outer P W0 i) (hp : Path P W0 W i k) (h : Back P W0 V i k k) (hi : i < P.length)
    (hr : Reach P (upn P k (i : Int)) ∧ ∀ q : Nat, (q : Int) = upn P k (i : Int) → q < P.length → (∀ m, m < k → upn P m (i : Int) ≠ (q : Int)) ∧ W0.getD q 0 = 1) : Outer P V (i + 1) := by
  have key : ∀ j : Nat, j < P.length → (V.getD j 0 = 1 ∧ Reach P (j : Int)) ∨ V.getD j 0 = W0.getD j 0 := by
    intro j hj
    by_cases hin : ∃ t, t < k ∧ upn P t (i : Int) = (j : Int)
    · obtain ⟨t, ht, e⟩ := hin
      left
      have h1 := h.done t ht
      rw [e, Int.toNat_natCast] at h1
      refine ⟨h1, reach_up P (k - t) _ ?_⟩
      rw [← e, ← upn_add, show k - t + t = k by omega]
      exact hr.1
    · exact .inr (h.off j hj (fun t ht e => hin ⟨t, ht, e⟩))
  refine ⟨h.len, fun j hj => ?_, fun j hj h1 => ?_, fun j hj => ?_⟩
  · rcases key j hj with ⟨h1, _⟩ | h1
    · exact .inr h1
    · rw [h1]; exact ho.vals j hj
  · rcases key j hj with ⟨_, h2⟩ | h2
    · exact h2
    · exact ho.top j hj (by rw [← h2]; exact h1)
  · by_cases e : j = i
    · subst e
      rcases Nat.eq_zero_or_pos k with hk | hk
      · subst hk
        have h1 := hr.2 j rfl hi
        rw [h.off j hi (fun t ht => by omega)]
        exact h1.2
      · have h1 := h.done 0 hk
        simpa [upn] using h1
    · rcases key j (by omega) with ⟨h1, _⟩ | h1
      · exact h1
      · rw [h1]; exact ho.past j (by omega)

theorem outer_all {P W : List Int} (h : Outer P W P.length) : ∀ j : Nat, j < P.length → Reach P (j : Int) := fun j hj => h.top j hj (h.past j hj)

theorem outer_start (P : List Int) : Outer P (List.replicate P.length 0) 0 := by
  refine ⟨by simp, fun j hj => .inl ?_, fun j hj h => ?_, fun j hj => by omega⟩
  · simp [List.getD, hj]
  · simp [List.getD, hj] at h

end Go.Proofs.Qxb6600042aMods
