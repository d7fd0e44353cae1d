import Derived.Test.Qxb6600042aModsBase
namespace Go.Proofs.Qxb6600042aMods
open Go.RowKit

/-- f, but x at j. -/
def upd {α : Type} (f : Nat → α) (j : Nat) (x : α) : Nat → α := fun t => if t = j then x else f t
theorem upd_same {α : Type} (f : Nat → α) (j : Nat) (x : α) : upd f j x j = x := if_pos rfl
theorem upd_other {α : Type} (f : Nat → α) (j t : Nat) (x : α) (h : t ≠ j) : upd f j x t = f t := if_neg h

/-- A family of m rows of numbers, the call's own, each in a block of its own. -/
structure Fam (w : World) (B m : Nat) (V : Nat → Value) (L : Nat → List Int) : Prop where
  own : ∀ j, j < m → w.ownsRow B 3 1 (V j) (L j).length (ints (L j))
  sep : ∀ j j', j < m → j' < m → j ≠ j' → (V j).ownBlock = none ∨ (V j).ownBlock ≠ (V j').ownBlock

theorem Fam.kept {w w' : World} {B m : Nat} {V : Nat → Value} {L : Nat → List Int} {row : Option Nat} (h : Fam w B m V L) (hg : w.grownBy w' row) (hr : ∀ k, row = some k → k < B) : Fam w' B m V L := by
  refine ⟨fun j hj => (h.own j hj).kept hg ?_, h.sep⟩
  cases e : (V j).ownBlock with
  | none => exact .inl rfl
  | some k =>
    right
    intro e2
    have h1 := (h.own j hj).lt k e
    have h2 := hr k e2.symm
    omega

theorem Fam.alloc {w : World} {B m : Nat} {V : Nat → Value} {L : Nat → List Int} (h : Fam w B m V L) (o : Obj) : Fam (w.alloc o) B m V L :=
  h.kept (World.grownBy_alloc w o none) (fun k e => by cases e)

theorem Fam.set {w : World} {B m : Nat} {V : Nat → Value} {L : Nat → List Int} (h : Fam w B m V L) (g i : Nat) (v : Value) (hg : g < B) : Fam (w.setCell ⟨g, i, none⟩ v) B m V L :=
  h.kept (grown_set w g i v) (fun k e => by cases e; exact hg)

/-- One row has grown. -/
theorem Fam.push {w w' : World} {B m j H : Nat} {V : Nat → Value} {L : Nat → List Int} {v' : Value} {y : Int} (h : Fam w B m V L) (hj : j < m)
    (hown : w'.ownsRow B 3 1 v' ((L j).length + 1) (ints (L j ++ [y]))) (hg : w.grownBy w' (V j).ownBlock) (hat : v'.ownBlock = (V j).ownBlock ∨ v'.ownBlock = some H) (hH : w.heap.size ≤ H) :
    Fam w' B m (upd V j v') (upd L j (L j ++ [y])) := by
  refine ⟨fun t ht => ?_, fun a b ha hb hab => ?_⟩
  · by_cases e : t = j
    · subst e
      rw [upd_same, upd_same]
      simpa using hown
    · rw [upd_other _ _ _ _ e, upd_other _ _ _ _ e]
      exact (h.own t ht).kept hg (h.sep t j ht hj e)
  · by_cases ea : a = j
    · subst ea
      rw [upd_same, upd_other _ _ _ _ (Ne.symm hab)]
      rcases hat with hat | hat
      · rw [hat]; exact h.sep a b ha hb hab
      · right
        rw [hat]
        intro e
        have h1 := (h.own b hb).lt H e.symm
        omega
    · rw [upd_other _ _ _ _ ea]
      by_cases eb : b = j
      · subst eb
        rw [upd_same]
        rcases hat with hat | hat
        · rw [hat]; exact h.sep a b ha hb hab
        · cases ev : (V a).ownBlock with
          | none => exact .inl rfl
          | some k =>
            right
            rw [hat]
            intro e
            cases e
            have h1 := (h.own a ha).lt H ev
            omega
      · rw [upd_other _ _ _ _ eb]
        exact h.sep a b ha hb hab

/-- One row has lost its last. -/
theorem Fam.pop {w : World} {B m j n : Nat} {V : Nat → Value} {L : Nat → List Int} {p : Option Addr} {cap : Nat} {l : List Int} {y : Int} (h : Fam w B m V L) (hj : j < m)
    (hV : V j = .slice p (n + 1) cap) (hL : L j = l ++ [y]) : Fam w B m (upd V j (.slice p n cap)) (upd L j l) := by
  have ho := h.own j hj
  rw [hV, hL] at ho
  have hl : l.length = n := by
    obtain ⟨p2, c2, h2, _⟩ := shows_own ho
    simp only [Value.slice.injEq] at h2
    have h3 := h2.2.1
    simp at h3
    omega
  have hob : (Value.slice p n cap).ownBlock = (V j).ownBlock := by
    rw [hV]
    cases p <;> rfl
  refine ⟨fun t ht => ?_, fun a b ha hb hab => ?_⟩
  · by_cases e : t = j
    · subst e
      rw [upd_same, upd_same]
      rcases ho.2 with ⟨h1, _⟩ | ⟨g, cap', cur, h1, hg, hh, hn, hcap, hsz, htake⟩
      · cases h1
      · simp only [Value.slice.injEq] at h1
        obtain ⟨rfl, _, rfl⟩ := h1
        have hn' : l.length + 1 ≤ cap := by simpa using hn
        refine ⟨by rw [ints_length]; omega, .inr ⟨g, cap, cur, by rw [hl], hg, hh, by omega, hcap, hsz, ?_⟩⟩
        have h3 : (cur.toList.take ((l ++ [y]).length * 1)).take (l.length * 1) = (ints (l ++ [y])).take (l.length * 1) := by rw [htake]
        rw [List.take_take, Nat.min_eq_left (by simp)] at h3
        rw [h3]
        simp [ints]
    · rw [upd_other _ _ _ _ e, upd_other _ _ _ _ e]
      exact h.own t ht
  · by_cases ea : a = j
    · subst ea
      rw [upd_same, upd_other _ _ _ _ (Ne.symm hab), hob]
      exact h.sep a b ha hb hab
    · rw [upd_other _ _ _ _ ea]
      by_cases eb : b = j
      · subst eb
        rw [upd_same, hob]
        exact h.sep a b ha hb hab
      · rw [upd_other _ _ _ _ eb]
        exact h.sep a b ha hb hab

end Go.Proofs.Qxb6600042aMods
