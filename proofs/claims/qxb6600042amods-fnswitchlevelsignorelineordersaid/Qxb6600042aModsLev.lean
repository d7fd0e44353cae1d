import Derived.Test.Qxb6600042aModsCyc
namespace Go.Proofs.Qxb6600042aMods

/-- One more than the highest of the children's levels; nought of no child; none where one has none. -/
def mx : List (Option Nat) → Option Nat
  | [] => some 0
  | none :: _ => none
  | some k :: r => (mx r).map (max (k + 1))

theorem mx_iff (l : List (Option Nat)) (h : Nat) : mx l = some h ↔ (∀ c ∈ l, ∃ k, c = some k ∧ k + 1 ≤ h) ∧ ((h = 0 ∧ l = []) ∨ ∃ k, some k ∈ l ∧ h = k + 1) := by
  induction l generalizing h with
  | nil =>
    simp only [mx, Option.some.injEq]
    constructor
    · rintro rfl
      exact ⟨by simp, .inl (by simp)⟩
    · rintro ⟨_, h | ⟨k, h, _⟩⟩
      · exact h.1.symm
      · simp at h
  | cons c r ih =>
    cases c with
    | none =>
      simp only [mx]
      constructor
      · intro h; cases h
      · rintro ⟨h1, _⟩
        obtain ⟨k, h2, _⟩ := h1 none (by simp)
        cases h2
    | some k =>
      simp only [mx, Option.map_eq_some_iff]
      constructor
      · rintro ⟨m, hm, rfl⟩
        obtain ⟨h1, h2⟩ := (ih m).1 hm
        refine ⟨?_, .inr ?_⟩
        · intro c hc
          rcases List.mem_cons.1 hc with rfl | hc
          · exact ⟨k, rfl, by omega⟩
          · obtain ⟨k', e, hk⟩ := h1 c hc
            exact ⟨k', e, by omega⟩
        · by_cases hle : m ≤ k + 1
          · exact ⟨k, by simp, by omega⟩
          · rcases h2 with ⟨h2, _⟩ | ⟨k', h2, h3⟩
            · omega
            · exact ⟨k', by simp [h2], by omega⟩
      · rintro ⟨h1, h2⟩
        obtain ⟨k0, e, hk0⟩ := h1 (some k) (by simp)
        cases e
        rcases h2 with ⟨_, h2⟩ | ⟨k', h2, h3⟩
        · cases h2
        · by_cases hr : ∃ k2, some k2 ∈ r ∧ h = k2 + 1
          · exact ⟨h, (ih h).2 ⟨fun c hc => h1 c (by simp [hc]), .inr hr⟩, by omega⟩
          · rcases List.mem_cons.1 h2 with e | h2
            · cases e
              -- the first is the highest, and the rest lie below it
              have : ∃ m, mx r = some m ∧ m ≤ h := by
                clear ih h2 hr
                have h4 : ∀ c ∈ r, ∃ k, c = some k ∧ k + 1 ≤ h := fun c hc => h1 c (by simp [hc])
                clear h1
                induction r with
                | nil => exact ⟨0, rfl, by omega⟩
                | cons c r ih2 =>
                  obtain ⟨k2, rfl, hk2⟩ := h4 c (by simp)
                  obtain ⟨m, e, hm⟩ := ih2 (fun c hc => h4 c (by simp [hc]))
                  exact ⟨max (k2 + 1) m, by simp [mx, e], by omega⟩
              obtain ⟨m, e, hm⟩ := this
              exact ⟨m, e, by omega⟩
            · exact absurd ⟨k', h2, h3⟩ hr

/-- The level of switch i, looked for f deep. -/
def levK (G : Nat → List (Option Nat)) : Nat → Nat → Option Nat
  | 0, _ => none
  | f + 1, i => mx ((G i).map (fun c => c.bind (levK G f)))

theorem levK_iff (G : Nat → List (Option Nat)) (f i h : Nat) : levK G (f + 1) i = some h ↔
    (∀ c ∈ G i, ∃ d k, c = some d ∧ levK G f d = some k ∧ k + 1 ≤ h) ∧ ((h = 0 ∧ G i = []) ∨ ∃ d k, some d ∈ G i ∧ levK G f d = some k ∧ h = k + 1) := by
  show mx _ = _ ↔ _
  rw [mx_iff]
  constructor
  · rintro ⟨h1, h2⟩
    refine ⟨fun c hc => ?_, ?_⟩
    · obtain ⟨k, e, hk⟩ := h1 _ (List.mem_map.2 ⟨c, hc, rfl⟩)
      cases c with
      | none => cases e
      | some d => exact ⟨d, k, rfl, e, hk⟩
    · rcases h2 with ⟨h2, h3⟩ | ⟨k, h2, h3⟩
      · exact .inl ⟨h2, by simpa using h3⟩
      · obtain ⟨c, hc, e⟩ := List.mem_map.1 h2
        cases c with
        | none => cases e
        | some d => exact .inr ⟨d, k, hc, e, h3⟩
  · rintro ⟨h1, h2⟩
    refine ⟨fun c hc => ?_, ?_⟩
    · obtain ⟨c', hc', rfl⟩ := List.mem_map.1 hc
      obtain ⟨d, k, rfl, e, hk⟩ := h1 c' hc'
      exact ⟨k, e, hk⟩
    · rcases h2 with ⟨h2, h3⟩ | ⟨d, k, h2, e, h3⟩
      · exact .inl ⟨h2, by simp [h3]⟩
      · exact .inr ⟨k, List.mem_map.2 ⟨some d, h2, e⟩, h3⟩

theorem levK_succ (G : Nat → List (Option Nat)) (f : Nat) : ∀ i h, levK G f i = some h → levK G (f + 1) i = some h := by
  induction f with
  | zero => intro i h e; cases e
  | succ f ih =>
    intro i h e
    obtain ⟨h1, h2⟩ := (levK_iff G f i h).1 e
    refine (levK_iff G (f + 1) i h).2 ⟨fun c hc => ?_, ?_⟩
    · obtain ⟨d, k, rfl, e, hk⟩ := h1 c hc
      exact ⟨d, k, rfl, ih _ _ e, hk⟩
    · rcases h2 with h2 | ⟨d, k, h2, e, h3⟩
      · exact .inl h2
      · exact .inr ⟨d, k, h2, ih _ _ e, h3⟩

theorem levK_le (G : Nat → List (Option Nat)) (f f' i h : Nat) (hf : f ≤ f') (e : levK G f i = some h) : levK G f' i = some h := by
  induction f' with
  | zero => obtain rfl : f = 0 := by omega
            exact e
  | succ f' ih =>
    by_cases hh : f = f' + 1
    · subst hh; exact e
    · exact levK_succ _ _ _ _ (ih (by omega))

/-- Switch i has level k. -/
def Has (G : Nat → List (Option Nat)) (i k : Nat) : Prop := ∃ f, levK G f i = some k

theorem Has.unique {G : Nat → List (Option Nat)} {i k k' : Nat} (h : Has G i k) (h' : Has G i k') : k = k' := by
  obtain ⟨f, e⟩ := h
  obtain ⟨f', e'⟩ := h'
  have h1 := levK_le G f (max f f') i k (by omega) e
  have h2 := levK_le G f' (max f f') i k' (by omega) e'
  rw [h1] at h2
  cases h2
  rfl

theorem has_fuel (G : Nat → List (Option Nat)) (h : Nat) (l : List (Option Nat)) (hl : ∀ c ∈ l, ∃ d k, c = some d ∧ Has G d k ∧ k + 1 ≤ h) :
    ∃ F, ∀ c ∈ l, ∃ d k, c = some d ∧ levK G F d = some k ∧ k + 1 ≤ h := by
  induction l with
  | nil => exact ⟨0, by simp⟩
  | cons c r ih =>
    obtain ⟨F, hF⟩ := ih (fun c hc => hl c (by simp [hc]))
    obtain ⟨d, k, rfl, ⟨f, e⟩, hk⟩ := hl c (by simp)
    refine ⟨max F f, fun c hc => ?_⟩
    rcases List.mem_cons.1 hc with rfl | hc
    · exact ⟨d, k, rfl, levK_le _ _ _ _ _ (by omega) e, hk⟩
    · obtain ⟨d', k', rfl, e', hk'⟩ := hF c hc
      exact ⟨d', k', rfl, levK_le _ _ _ _ _ (by omega) e', hk'⟩

theorem Has.intro {G : Nat → List (Option Nat)} {i h : Nat} (h1 : ∀ c ∈ G i, ∃ d k, c = some d ∧ Has G d k ∧ k + 1 ≤ h)
    (h2 : (h = 0 ∧ G i = []) ∨ ∃ d k, some d ∈ G i ∧ Has G d k ∧ h = k + 1) : Has G i h := by
  obtain ⟨F, hF⟩ := has_fuel G h _ h1
  refine ⟨F + 1, (levK_iff _ _ _ _).2 ⟨hF, ?_⟩⟩
  rcases h2 with h2 | ⟨d, k, h2, h3, h4⟩
  · exact .inl h2
  · obtain ⟨d', k', e, e', _⟩ := hF _ h2
    cases e
    have := Has.unique h3 ⟨F, e'⟩
    subst this
    exact .inr ⟨d, k, h2, e', h4⟩

/-- The same switches in the reverse order. -/
theorem levK_rev (G G' : Nat → List (Option Nat)) (n : Nat) (hd : ∀ i, i < n → ∀ d, some d ∈ G i → d < n)
    (hG : ∀ i, i < n → G' (n - 1 - i) = (G i).map (Option.map (n - 1 - ·))) (f : Nat) : ∀ i, i < n → levK G' f (n - 1 - i) = levK G f i := by
  induction f with
  | zero => intro i _; rfl
  | succ f ih =>
    intro i hi
    show mx _ = mx _
    rw [hG i hi, List.map_map]
    congr 1
    apply List.map_congr_left
    intro c hc
    cases c with
    | none => rfl
    | some d => exact ih d (hd i hi d hc)

theorem has_rev (G G' : Nat → List (Option Nat)) (n : Nat) (hd : ∀ i, i < n → ∀ d, some d ∈ G i → d < n)
    (hG : ∀ i, i < n → G' (n - 1 - i) = (G i).map (Option.map (n - 1 - ·))) (i k : Nat) (hi : i < n) : Has G' (n - 1 - i) k ↔ Has G i k := by
  constructor
  · rintro ⟨f, e⟩
    exact ⟨f, by rw [← levK_rev G G' n hd hG f i hi]; exact e⟩
  · rintro ⟨f, e⟩
    exact ⟨f, by rw [levK_rev G G' n hd hG f i hi]; exact e⟩

/-- L holds the level of each of n switches, -1 where it has none. -/
structure Levs (G : Nat → List (Option Nat)) (n : Nat) (L : List Int) : Prop where
  len : L.length = n
  has : ∀ i, i < n → (∃ k : Nat, L.getD i 0 = k ∧ Has G i k) ∨ (L.getD i 0 = -1 ∧ ∀ k, ¬ Has G i k)

theorem levs_rev {G G' : Nat → List (Option Nat)} {n : Nat} {L L' : List Int} (h : Levs G n L) (h' : Levs G' n L') (hd : ∀ i, i < n → ∀ d, some d ∈ G i → d < n)
    (hG : ∀ i, i < n → G' (n - 1 - i) = (G i).map (Option.map (n - 1 - ·))) (i : Nat) (hi : i < n) : L.getD i 0 = L'.getD (n - 1 - i) 0 := by
  rcases h.has i hi with ⟨k, e, hk⟩ | ⟨e, hk⟩
  · rcases h'.has (n - 1 - i) (by omega) with ⟨k', e', hk'⟩ | ⟨e', hk'⟩
    · rw [e, e', Has.unique hk ((has_rev G G' n hd hG i k' hi).1 hk')]
    · exact absurd ((has_rev G G' n hd hG i k hi).2 hk) (hk' k)
  · rcases h'.has (n - 1 - i) (by omega) with ⟨k', e', hk'⟩ | ⟨e', hk'⟩
    · exact absurd ((has_rev G G' n hd hG i k' hi).1 hk') (hk k')
    · rw [e, e']

end Go.Proofs.Qxb6600042aMods
