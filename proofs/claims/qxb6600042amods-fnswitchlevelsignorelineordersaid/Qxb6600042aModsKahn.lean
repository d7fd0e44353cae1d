import Derived.Test.Qxb6600042aModsLev
import Derived.Test.Qxb6600042aModsBase
namespace Go.Proofs.Qxb6600042aMods

def inD (D : List Nat) : Option Nat → Bool
  | some d => decide (d ∈ D)
  | none => false

theorem inD_cons (a : Nat) (D : List Nat) (h : a ∉ D) (l : List (Option Nat)) : l.countP (inD (a :: D)) = l.countP (inD D) + l.count (some a) := by
  induction l with
  | nil => rfl
  | cons c r ih =>
    rw [List.countP_cons, List.countP_cons, List.count_cons, ih]
    cases c with
    | none => simp [inD]
    | some d =>
      by_cases e : d = a
      · subst e; simp [inD, h]; omega
      · simp [inD, e]; omega

theorem inD_le (a : Nat) (D : List Nat) (h : a ∉ D) (l : List (Option Nat)) : l.countP (inD D) + l.count (some a) ≤ l.length := by
  rw [← inD_cons a D h]; exact List.countP_le_length

/-- The counting: W waits, L levels, C counted and not yet looked at, E looked at, D looked at to the end; q of what the last one has told. -/
structure Kahn (G : Nat → List (Option Nat)) (n : Nat) (W L : List Int) (C E D : List Nat) (q : Nat → Nat) : Prop where
  wlen : W.length = n
  llen : L.length = n
  wq : ∀ i, i < n → W.getD i 0 + ((G i).countP (inD D) + q i : Nat) = ((G i).length : Nat)
  nd : (C ++ E).Nodup
  lt : ∀ x ∈ C ++ E, x < n ∧ W.getD x 0 = 0
  zero : ∀ i, i < n → W.getD i 0 = 0 → i ∈ C ++ E
  has : ∀ x ∈ C ++ E, ∃ k : Nat, L.getD x 0 = k ∧ Has G x k
  up : ∀ i, i < n → ∀ d, some d ∈ G i → (d ∈ D ∨ (d ∈ E ∧ 0 < q i)) → L.getD d 0 + 1 ≤ L.getD i 0
  at_ : ∀ i, i < n → (L.getD i 0 = if G i = [] then 0 else -1) ∨ ∃ d, some d ∈ G i ∧ d ∈ E ∧ L.getD i 0 = L.getD d 0 + 1
  bdE : ∀ x ∈ E, L.getD x 0 ≤ D.length
  bd : ∀ i, i < n → L.getD i 0 ≤ E.length

theorem nodup_le {n : Nat} {l : List Nat} (h : l.Nodup) (hl : ∀ x ∈ l, x < n) : l.length ≤ n := by
  refine pigeon n l.length (fun i => l.getD i 0) ?_ ?_
  · intro i hi
    rw [List.getD_eq_getElem?_getD, List.getElem?_eq_getElem hi]
    exact hl _ (List.getElem_mem hi)
  · intro i j hij hj e
    simp only [List.getD_eq_getElem?_getD, List.getElem?_eq_getElem hj, List.getElem?_eq_getElem (Nat.lt_trans hij hj), Option.getD_some] at e
    have := (List.nodup_iff_pairwise_ne.1 h)
    have := List.pairwise_iff_getElem.1 this i j (by omega) hj hij
    exact this e

theorem Kahn.count_le {G : Nat → List (Option Nat)} {n : Nat} {W L : List Int} {C E D : List Nat} {q : Nat → Nat} (h : Kahn G n W L C E D q) : C.length + E.length ≤ n := by
  have := nodup_le h.nd (fun x hx => (h.lt x hx).1)
  simpa using this

theorem Kahn.pop {G : Nat → List (Option Nat)} {n a : Nat} {W L : List Int} {C D : List Nat} (h : Kahn G n W L (C ++ [a]) D D (fun _ => 0)) :
    Kahn G n W L C (a :: D) D (fun _ => 0) ∧ a < n ∧ a ∉ D := by
  have e : C ++ [a] ++ D = C ++ a :: D := by simp
  have hnd := h.nd
  rw [e] at hnd
  have hlt := h.lt
  rw [e] at hlt
  have hz := h.zero
  rw [e] at hz
  have hh := h.has
  rw [e] at hh
  have ha : a ∉ D := by
    have := (List.nodup_append.1 hnd).2.1
    exact (List.nodup_cons.1 this).1
  have han := (hlt a (by simp)).1
  refine ⟨⟨h.wlen, h.llen, h.wq, hnd, hlt, hz, hh, fun i hi d hd hc => ?_, fun i hi => ?_, fun x hx => ?_, fun i hi => ?_⟩, han, ha⟩
  · rcases hc with hc | ⟨_, hc⟩
    · exact h.up i hi d hd (.inl hc)
    · omega
  · rcases h.at_ i hi with h1 | ⟨d, h1, h2, h3⟩
    · exact .inl h1
    · exact .inr ⟨d, h1, by simp [h2], h3⟩
  · rcases List.mem_cons.1 hx with rfl | hx
    · exact h.bd _ han
    · exact h.bdE x hx
  · have := h.bd i hi
    simp only [List.length_cons]
    omega

theorem Kahn.done {G : Nat → List (Option Nat)} {n a : Nat} {W L : List Int} {C D : List Nat} {q : Nat → Nat} (h : Kahn G n W L C (a :: D) D q) (ha : a ∉ D)
    (hq : ∀ i, i < n → q i = (G i).count (some a)) : Kahn G n W L C (a :: D) (a :: D) (fun _ => 0) := by
  refine ⟨h.wlen, h.llen, fun i hi => ?_, h.nd, h.lt, h.zero, h.has, fun i hi d hd hc => ?_, h.at_, fun x hx => ?_, h.bd⟩
  · have := h.wq i hi
    rw [inD_cons a D ha, ← hq i hi]
    omega
  · rcases hc with hc | ⟨_, hc⟩
    · rcases List.mem_cons.1 hc with rfl | hc
      · refine h.up i hi d hd (.inr ⟨by simp, ?_⟩)
        rw [hq i hi]
        exact List.count_pos_iff.2 hd
      · exact h.up i hi d hd (.inl hc)
    · omega
  · exact h.bd x (h.lt x (List.mem_append.2 (.inr hx))).1

/-- One holder u of a is told. -/
theorem Kahn.step {G : Nat → List (Option Nat)} {n a u : Nat} {W L : List Int} {C D : List Nat} {q q' : Nat → Nat} (h : Kahn G n W L C (a :: D) D q) (ha : a ∉ D) (hu : u < n)
    (hq : ∀ i, i < n → q' i = q i + if i = u then 1 else 0) (hle : q' u ≤ (G u).count (some a)) :
    1 ≤ W.getD u 0 ∧ u ≠ a ∧ (W.getD u 0 - 1 ≠ 0 → Kahn G n (W.set u (W.getD u 0 - 1)) (L.set u (max (L.getD u 0) (L.getD a 0 + 1))) C (a :: D) D q') ∧
      (W.getD u 0 - 1 = 0 → Kahn G n (W.set u (W.getD u 0 - 1)) (L.set u (max (L.getD u 0) (L.getD a 0 + 1))) (C ++ [u]) (a :: D) D q') := by
  have hwu := h.wq u hu
  have hqu := hq u hu
  rw [if_pos rfl] at hqu
  have hin := inD_le a D ha (G u)
  have hW1 : 1 ≤ W.getD u 0 := by omega
  have hnot : u ∉ C ++ a :: D := fun hx => by have := (h.lt u hx).2; omega
  have hua : u ≠ a := fun e => hnot (by simp [e])
  have hmem : some a ∈ G u := List.count_pos_iff.1 (by omega)
  have hWl : u < W.length := by rw [h.wlen]; exact hu
  have hLl : u < L.length := by rw [h.llen]; exact hu
  have gW := fun j => getD_set W u j (W.getD u 0 - 1) 0 hWl
  have gL := fun j => getD_set L u j (max (L.getD u 0) (L.getD a 0 + 1)) 0 hLl
  have gL' : ∀ x, x ∈ C ++ a :: D → (L.set u (max (L.getD u 0) (L.getD a 0 + 1))).getD x 0 = L.getD x 0 := fun x hx => by
    rw [gL, if_neg (fun e => hnot (by rw [e]; exact hx))]
  have gW' : ∀ x, x ∈ C ++ a :: D → (W.set u (W.getD u 0 - 1)).getD x 0 = W.getD x 0 := fun x hx => by
    rw [gW, if_neg (fun e => hnot (by rw [e]; exact hx))]
  have hE : ∀ x, x ∈ a :: D → x ∈ C ++ a :: D := fun x hx => List.mem_append.2 (.inr hx)
  have hD : ∀ x, x ∈ D → x ∈ C ++ a :: D := fun x hx => hE x (List.mem_cons_of_mem _ hx)
  -- what does not hang on W's end
  have wq : ∀ i, i < n → (W.set u (W.getD u 0 - 1)).getD i 0 + ((G i).countP (inD D) + q' i : Nat) = ((G i).length : Nat) := by
    intro i hi
    rw [gW, hq i hi]
    by_cases e : u = i
    · subst e; rw [if_pos rfl, if_pos rfl]; omega
    · rw [if_neg e, if_neg (Ne.symm e)]; have := h.wq i hi; omega
  have up : ∀ i, i < n → ∀ d, some d ∈ G i → (d ∈ D ∨ (d ∈ a :: D ∧ 0 < q' i)) → (L.set u (max (L.getD u 0) (L.getD a 0 + 1))).getD d 0 + 1 ≤ (L.set u (max (L.getD u 0) (L.getD a 0 + 1))).getD i 0 := by
    intro i hi d hd hc
    have hdE : d ∈ a :: D := by rcases hc with hc | hc; exact List.mem_cons_of_mem _ hc; exact hc.1
    rw [gL' d (hE d hdE), gL]
    by_cases e : u = i
    · subst e
      rw [if_pos rfl]
      rcases List.mem_cons.1 hdE with rfl | hdD
      · omega
      · have := h.up u hi d hd (.inl hdD); omega
    · rw [if_neg e]
      refine h.up i hi d hd ?_
      rcases hc with hc | ⟨hc, hp⟩
      · exact .inl hc
      · rw [hq i hi, if_neg (Ne.symm e)] at hp
        exact .inr ⟨hc, hp⟩
  have at_ : ∀ i, i < n → ((L.set u (max (L.getD u 0) (L.getD a 0 + 1))).getD i 0 = if G i = [] then 0 else -1) ∨ ∃ d, some d ∈ G i ∧ d ∈ a :: D ∧ (L.set u (max (L.getD u 0) (L.getD a 0 + 1))).getD i 0 = (L.set u (max (L.getD u 0) (L.getD a 0 + 1))).getD d 0 + 1 := by
    intro i hi
    by_cases e : u = i
    · subst e
      rw [gL, if_pos rfl]
      by_cases hm : L.getD u 0 ≤ L.getD a 0 + 1
      · refine .inr ⟨a, hmem, by simp, ?_⟩
        rw [gL' a (hE a (by simp))]
        omega
      · rcases h.at_ u hi with h1 | ⟨d, h1, h2, h3⟩
        · left; omega
        · refine .inr ⟨d, h1, h2, ?_⟩
          rw [gL' d (hE d h2)]
          omega
    · rw [gL, if_neg e]
      rcases h.at_ i hi with h1 | ⟨d, h1, h2, h3⟩
      · exact .inl h1
      · refine .inr ⟨d, h1, h2, ?_⟩
        rw [gL' d (hE d h2)]
        exact h3
  have bdE : ∀ x ∈ a :: D, (L.set u (max (L.getD u 0) (L.getD a 0 + 1))).getD x 0 ≤ D.length := fun x hx => by
    rw [gL' x (hE x hx)]; exact h.bdE x hx
  have bd : ∀ i, i < n → (L.set u (max (L.getD u 0) (L.getD a 0 + 1))).getD i 0 ≤ (a :: D).length := by
    intro i hi
    rw [gL]
    have h1 := h.bdE a (by simp)
    have h2 := h.bd i hi
    simp only [List.length_cons] at h2 ⊢
    by_cases e : u = i
    · subst e; rw [if_pos rfl]; omega
    · rw [if_neg e]; omega
  refine ⟨hW1, hua, fun hne => ?_, fun hz => ?_⟩
  · refine ⟨by simp [h.wlen], by simp [h.llen], wq, h.nd, fun x hx => ?_, fun i hi hi0 => ?_, fun x hx => ?_, up, at_, bdE, bd⟩
    · rw [gW' x hx]; exact h.lt x hx
    · rw [gW] at hi0
      by_cases e : u = i
      · rw [if_pos e] at hi0; omega
      · rw [if_neg e] at hi0; exact h.zero i hi hi0
    · rw [gL' x hx]; exact h.has x hx
  · have e0 : C ++ [u] ++ a :: D = C ++ (u :: a :: D) := by simp
    have hmem2 : ∀ x, x ∈ C ++ [u] ++ a :: D ↔ x = u ∨ x ∈ C ++ a :: D := by
      intro x
      simp only [List.mem_append, List.mem_cons, List.not_mem_nil, or_false]
      constructor
      · rintro ((h | h) | h | h) <;> simp [h]
      · rintro (h | h | h | h) <;> simp [h]
    refine ⟨by simp [h.wlen], by simp [h.llen], wq, ?_, fun x hx => ?_, fun i hi hi0 => ?_, fun x hx => ?_, up, at_, bdE, bd⟩
    · rw [e0]
      have h0 := List.nodup_append.1 h.nd
      refine List.nodup_append.2 ⟨h0.1, List.nodup_cons.2 ⟨fun hx => hnot (hE u hx), h0.2.1⟩, fun x hx y hy => ?_⟩
      rcases List.mem_cons.1 hy with rfl | hy
      · intro e; exact hnot (by rw [← e]; simp [hx])
      · exact h0.2.2 x hx y hy
    · rcases (hmem2 x).1 hx with rfl | hx
      · exact ⟨hu, by rw [gW, if_pos rfl]; exact hz⟩
      · rw [gW' x hx]; exact h.lt x hx
    · refine (hmem2 i).2 ?_
      rw [gW] at hi0
      by_cases e : u = i
      · exact .inl e.symm
      · rw [if_neg e] at hi0; exact .inr (h.zero i hi hi0)
    · rcases (hmem2 x).1 hx with rfl | hx
      · -- all its children are looked at
        have hall : ∀ c ∈ G x, ∃ d, c = some d ∧ d ∈ a :: D := by
          have hfull : (G x).countP (inD (a :: D)) = (G x).length := by
            rw [inD_cons a D ha]
            omega
          intro c hc
          have := List.countP_eq_length.1 hfull c hc
          cases c with
          | none => simp [inD] at this
          | some d => exact ⟨d, rfl, by simpa [inD] using this⟩
        have hk : ∃ k : Nat, (L.set x (max (L.getD x 0) (L.getD a 0 + 1))).getD x 0 = k := by
          obtain ⟨k, e, _⟩ := h.has a (hE a (by simp))
          rw [gL, if_pos rfl]
          exact ⟨(max (L.getD x 0) (L.getD a 0 + 1)).toNat, by omega⟩
        obtain ⟨k, ek⟩ := hk
        refine ⟨k, ek, Has.intro (fun c hc => ?_) ?_⟩
        · obtain ⟨d, rfl, hd⟩ := hall c hc
          obtain ⟨kd, ed, hh⟩ := h.has d (hE d hd)
          refine ⟨d, kd, rfl, hh, ?_⟩
          have := up x hu d hc (by
            rcases List.mem_cons.1 hd with rfl | hd
            · exact .inr ⟨by simp, by omega⟩
            · exact .inl hd)
          rw [gL' d (hE d hd), ek, ed] at this
          omega
        · rcases at_ x hu with h1 | ⟨d, h1, h2, h3⟩
          · rw [ek] at h1
            split at h1
            · exact .inl ⟨by omega, by assumption⟩
            · omega
          · obtain ⟨kd, ed, hh⟩ := h.has d (hE d h2)
            rw [gL' d (hE d h2), ek, ed] at h3
            exact .inr ⟨d, kd, h1, hh, by omega⟩
      · rw [gL' x hx]; exact h.has x hx

/-- Nothing is left to look at: who waits has no level. -/
theorem Kahn.finish {G : Nat → List (Option Nat)} {n : Nat} {W L : List Int} {D : List Nat} (h : Kahn G n W L [] D D (fun _ => 0)) (hd : ∀ i, i < n → ∀ d, some d ∈ G i → d < n) (i : Nat) (hi : i < n) :
    (W.getD i 0 = 0 → ∃ k : Nat, L.getD i 0 = k ∧ Has G i k) ∧ (W.getD i 0 ≠ 0 → ∀ k, ¬ Has G i k) := by
  refine ⟨fun h0 => h.has i (h.zero i hi h0), fun h0 k ⟨f, hf⟩ => h0 ?_⟩
  have key : ∀ f i k, i < n → levK G f i = some k → W.getD i 0 = 0 := by
    intro f
    induction f with
    | zero => intro i k _ e; cases e
    | succ f ih =>
      intro i k hi e
      obtain ⟨h1, _⟩ := (levK_iff G f i k).1 e
      have hfull : (G i).countP (inD D) = (G i).length := by
        refine List.countP_eq_length.2 (fun c hc => ?_)
        obtain ⟨d, kd, rfl, ed, _⟩ := h1 c hc
        have hdn := hd i hi d hc
        have := h.zero d hdn (ih d kd hdn ed)
        simpa [inD] using this
      have := h.wq i hi
      omega
  exact key f i k hi hf

/-- The start: who has no child is counted. -/
theorem Kahn.start {G : Nat → List (Option Nat)} {n : Nat} {W L : List Int} {C : List Nat} (hW : W.length = n) (hL : L.length = n) (hw : ∀ i, i < n → W.getD i 0 = ((G i).length : Nat)) (hl : ∀ i, i < n → L.getD i 0 = if G i = [] then 0 else -1)
    (hC : ∀ x, x ∈ C ↔ x < n ∧ G x = []) (hnd : C.Nodup) : Kahn G n W L C [] [] (fun _ => 0) := by
  have h0 : ∀ (l : List (Option Nat)), l.countP (inD []) = 0 := by
    intro l
    rw [List.countP_eq_zero]
    intro c _
    cases c <;> simp [inD]
  refine ⟨hW, hL, fun i hi => by rw [h0, hw i hi]; simp, by simpa using hnd, fun x hx => ?_, fun i hi h => ?_, fun x hx => ?_, fun i hi d _ hc => by simp at hc, fun i hi => .inl (hl i hi), fun x hx => by simp at hx, fun i hi => ?_⟩
  · obtain ⟨h1, h2⟩ := (hC x).1 (by simpa using hx)
    exact ⟨h1, by rw [hw x h1, h2]; rfl⟩
  · have := hw i hi
    have h3 : G i = [] := List.eq_nil_of_length_eq_zero (by omega)
    simpa using (hC i).2 ⟨hi, h3⟩
  · obtain ⟨h1, h2⟩ := (hC x).1 (by simpa using hx)
    exact ⟨0, by rw [hl x h1, if_pos h2]; rfl, Has.intro (fun c hc => by rw [h2] at hc; simp at hc) (.inl ⟨rfl, h2⟩)⟩
  · rw [hl i hi]
    split <;> simp

end Go.Proofs.Qxb6600042aMods
