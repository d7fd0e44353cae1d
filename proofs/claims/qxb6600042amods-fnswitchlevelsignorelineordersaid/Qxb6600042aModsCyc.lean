namespace Go.Proofs.Qxb6600042aMods

/-- One step up; a top (a negative number) stays. -/
def stp (P : List Int) (x : Int) : Int := if x < 0 then x else P.getD x.toNat 0

/-- k steps up. -/
def upn (P : List Int) : Nat → Int → Int
  | 0, x => x
  | k + 1, x => upn P k (stp P x)

/-- The walk up from x ends at a top. -/
def Reach (P : List Int) (x : Int) : Prop := ∃ k, upn P k x < 0

/-- Every parent is below the count. -/
def OkP (P : List Int) : Prop := ∀ i, i < P.length → P.getD i 0 < (P.length : Int)

theorem upn_succ (P : List Int) (k : Nat) (x : Int) : upn P (k + 1) x = stp P (upn P k x) := by
  induction k generalizing x with
  | zero => rfl
  | succ k ih => rw [upn, ih, upn]

theorem upn_add (P : List Int) (a b : Nat) (x : Int) : upn P (a + b) x = upn P a (upn P b x) := by
  induction a with
  | zero => simp [upn]
  | succ a ih => rw [Nat.add_right_comm, upn_succ, ih, upn_succ]

theorem stp_neg (P : List Int) (x : Int) (h : x < 0) : stp P x = x := if_pos h
theorem stp_nat (P : List Int) (q : Nat) : stp P (q : Int) = P.getD q 0 := by simp [stp]; omega

theorem upn_neg (P : List Int) (k : Nat) (x : Int) (h : x < 0) : upn P k x = x := by
  induction k with
  | zero => rfl
  | succ k ih => rw [upn_succ, ih, stp_neg P x h]

theorem stp_lt (P : List Int) (h : OkP P) (x : Int) (hx : x < (P.length : Int)) : stp P x < (P.length : Int) := by
  unfold stp
  split
  · exact hx
  · exact h _ (by omega)

theorem upn_lt (P : List Int) (h : OkP P) (k : Nat) (x : Int) (hx : x < (P.length : Int)) : upn P k x < (P.length : Int) := by
  induction k with
  | zero => exact hx
  | succ k ih => rw [upn_succ]; exact stp_lt P h _ ih

theorem reach_up (P : List Int) (k : Nat) (x : Int) (h : Reach P (upn P k x)) : Reach P x := by
  obtain ⟨j, hj⟩ := h
  exact ⟨j + k, by rw [upn_add]; exact hj⟩

theorem reach_neg (P : List Int) (x : Int) (h : x < 0) : Reach P x := ⟨0, h⟩

/-- x lies on a loop of just p domains. -/
structure Cyc (P : List Int) (x : Int) (p : Nat) : Prop where
  pos : 1 ≤ p
  lo : 0 ≤ x
  back : upn P p x = x
  least : ∀ m, 1 ≤ m → upn P m x = x → p ≤ m

theorem Cyc.mul {P : List Int} {x : Int} {p : Nat} (h : Cyc P x p) (j : Nat) : upn P (p * j) x = x := by
  induction j with
  | zero => rfl
  | succ j ih => rw [Nat.mul_succ, upn_add, h.back, ih]

theorem Cyc.nonneg {P : List Int} {x : Int} {p : Nat} (h : Cyc P x p) (m : Nat) : 0 ≤ upn P m x := by
  rcases Int.lt_or_le (upn P m x) 0 with hn | hn
  · exfalso
    have h1 := h.mul m
    have hpm : m ≤ p * m := Nat.le_mul_of_pos_left m h.pos
    rw [show p * m = (p * m - m) + m by omega, upn_add, upn_neg P _ _ hn] at h1
    have := h.lo
    omega
  · exact hn

theorem Cyc.shift {P : List Int} {x : Int} {p : Nat} (h : Cyc P x p) (s : Nat) : Cyc P (upn P s x) p := by
  refine ⟨h.pos, h.nonneg s, ?_, ?_⟩
  · rw [← upn_add, Nat.add_comm, upn_add, h.back]
  · intro m hm e
    apply h.least m hm
    have h1 : upn P (p * s - s) (upn P m (upn P s x)) = upn P (p * s - s) (upn P s x) := by rw [e]
    have hps : s ≤ p * s := Nat.le_mul_of_pos_left s h.pos
    rw [← upn_add P (p * s - s) s, show p * s - s + s = p * s by omega, h.mul s, ← upn_add P m s, ← upn_add, show p * s - s + (m + s) = m + p * s by omega, upn_add, h.mul s] at h1
    exact h1

theorem Cyc.inj {P : List Int} {x : Int} {p : Nat} (h : Cyc P x p) (a b : Nat) (hab : a < b) (hb : b < p) : upn P a x ≠ upn P b x := by
  intro e
  have h1 := (h.shift a).least (b - a) (by omega) (by rw [← upn_add, show b - a + a = b by omega]; exact e.symm)
  omega

theorem Cyc.not_reach {P : List Int} {x : Int} {p : Nat} (h : Cyc P x p) : ¬ Reach P x := by
  rintro ⟨k, hk⟩
  have := h.nonneg k
  omega

theorem pigeon (n : Nat) : ∀ (p : Nat) (f : Nat → Nat), (∀ i, i < p → f i < n) → (∀ i j, i < j → j < p → f i ≠ f j) → p ≤ n := by
  induction n with
  | zero =>
    intro p f h _
    rcases Nat.eq_zero_or_pos p with h0 | h0
    · omega
    · have := h 0 h0; omega
  | succ n ih =>
    intro p f h hi
    by_cases he : ∃ i, i < p ∧ f i = n
    · obtain ⟨i0, h0, h1⟩ := he
      have := ih (p - 1) (fun i => if i < i0 then f i else f (i + 1)) (fun i hp => by
        show (if i < i0 then f i else f (i + 1)) < n
        by_cases hlt : i < i0
        · rw [if_pos hlt]
          have h2 := h i (by omega)
          have h3 := hi i i0 hlt h0
          omega
        · rw [if_neg hlt]
          have h2 := h (i + 1) (by omega)
          have h3 := hi i0 (i + 1) (by omega) (by omega)
          omega) (fun i j hij hj => by
        show (if i < i0 then f i else f (i + 1)) ≠ (if j < i0 then f j else f (j + 1))
        by_cases hi1 : i < i0
        · rw [if_pos hi1]
          by_cases hj1 : j < i0
          · rw [if_pos hj1]; exact hi i j hij (by omega)
          · rw [if_neg hj1]; exact hi i (j + 1) (by omega) (by omega)
        · rw [if_neg hi1, if_neg (by omega)]
          exact hi (i + 1) (j + 1) (by omega) (by omega))
      omega
    · have := ih p f (fun i hp => by
        have h2 := h i hp
        rcases Nat.lt_or_ge (f i) n with h3 | h3
        · exact h3
        · exact absurd ⟨i, hp, by omega⟩ he) hi
      omega

theorem Cyc.le {P : List Int} {x : Int} {p : Nat} (hP : OkP P) (hx : x < (P.length : Int)) (h : Cyc P x p) : p ≤ P.length := by
  refine pigeon P.length p (fun i => (upn P i x).toNat) (fun i _ => ?_) (fun i j hij hj => ?_)
  · show (upn P i x).toNat < P.length
    have h1 := h.nonneg i
    have h2 := upn_lt P hP i x hx
    omega
  · show (upn P i x).toNat ≠ (upn P j x).toNat
    have h1 := h.nonneg i
    have h2 := h.nonneg j
    have h3 := h.inj i j hij hj
    omega

theorem exists_cyc {P : List Int} {x : Int} {p : Nat} (hp : 1 ≤ p) (h0 : 0 ≤ x) (h : upn P p x = x) : ∃ q, Cyc P x q := by
  induction p using Nat.strongRecOn with
  | _ p ih =>
    by_cases hm : ∃ m, m < p ∧ 1 ≤ m ∧ upn P m x = x
    · obtain ⟨m, h1, h2, h3⟩ := hm
      exact ih m h1 h2 h3
    · exact ⟨p, hp, h0, h, fun m h1 h2 => Nat.le_of_not_lt fun h3 => hm ⟨m, h3, h1, h2⟩⟩

/-- The loop as it is listed: from f on, each the parent of the next. -/
def lp (P : List Int) (f : Int) (p : Nat) : List Int := (List.range p).map fun k => upn P (p - k) f

theorem lp_length (P : List Int) (f : Int) (p : Nat) : (lp P f p).length = p := by simp [lp]
theorem lp_get (P : List Int) (f : Int) (p k : Nat) (h : k < p) : (lp P f p).getD k 0 = upn P (p - k) f := by simp [lp, List.getD, h]

/-- What the law asks of a loop. -/
structure IsLoop (P l : List Int) : Prop where
  pos : 1 ≤ l.length
  range : ∀ k, k < l.length → 0 ≤ l.getD k 0 ∧ l.getD k 0 < (P.length : Int)
  inj : ∀ a b, a < b → b < l.length → l.getD a 0 ≠ l.getD b 0
  least : ∀ k, k < l.length → l.getD 0 0 ≤ l.getD k 0
  next : ∀ k, k < l.length → P.getD (l.getD ((k + 1) % l.length) 0).toNat 0 = l.getD k 0
  out : ¬ Reach P (l.getD 0 0)

theorem isLoop_lp {P : List Int} {f : Int} {p : Nat} (hP : OkP P) (hf : f < (P.length : Int)) (h : Cyc P f p) (hmin : ∀ m, f ≤ upn P m f) : IsLoop P (lp P f p) := by
  have hp := h.pos
  have e0 : (lp P f p).getD 0 0 = f := by rw [lp_get _ _ _ _ (by omega), Nat.sub_zero, h.back]
  refine ⟨by rw [lp_length]; exact hp, ?_, ?_, ?_, ?_, ?_⟩
  · intro k hk
    rw [lp_length] at hk
    rw [lp_get _ _ _ _ hk]
    exact ⟨h.nonneg _, upn_lt P hP _ _ hf⟩
  · intro a b hab hb
    rw [lp_length] at hb
    rw [lp_get _ _ _ _ (by omega), lp_get _ _ _ _ hb]
    intro e
    by_cases ha : a = 0
    · subst ha
      rw [Nat.sub_zero, h.back] at e
      have := h.least (p - b) (by omega) e.symm
      omega
    · exact h.inj (p - b) (p - a) (by omega) (by omega) e.symm
  · intro k hk
    rw [lp_length] at hk
    rw [e0, lp_get _ _ _ _ hk]
    exact hmin _
  · intro k hk
    rw [lp_length] at hk ⊢
    rw [lp_get _ _ _ _ hk]
    by_cases hl : k + 1 < p
    · rw [Nat.mod_eq_of_lt hl, lp_get _ _ _ _ hl, show p - k = (p - (k + 1)) + 1 by omega, upn_succ]
      have := h.nonneg (p - (k + 1))
      unfold stp
      rw [if_neg (by omega)]
    · have e : k + 1 = p := by omega
      rw [e, Nat.mod_self, e0, show p - k = 0 + 1 by omega, upn_succ]
      have := h.lo
      show _ = stp P f
      unfold stp
      rw [if_neg (by omega)]
  · rw [e0]
    exact h.not_reach

/-- What the second walk gathers. -/
def ups (P : List Int) (f : Int) (m : Nat) : List Int := (List.range m).map fun t => upn P (t + 1) f

theorem ups_succ (P : List Int) (f : Int) (m : Nat) : ups P f (m + 1) = ups P f m ++ [upn P (m + 1) f] := by simp [ups, List.range_succ]
theorem ups_length (P : List Int) (f : Int) (m : Nat) : (ups P f m).length = m := by simp [ups]

theorem lp_eq {P : List Int} {f : Int} {p : Nat} (h : Cyc P f p) : f :: (ups P f (p - 1)).reverse = lp P f p := by
  have hp := h.pos
  apply List.ext_getElem
  · simp [ups, lp]; omega
  · intro k h1 h2
    have hk : k < p := by simpa [lp] using h2
    simp only [lp, List.getElem_map, List.getElem_range]
    cases k with
    | zero => simp [h.back]
    | succ k =>
      rw [List.getElem_cons_succ, List.getElem_reverse]
      simp only [ups, List.getElem_map, List.getElem_range, List.length_map, List.length_range]
      congr 1
      omega

end Go.Proofs.Qxb6600042aMods
