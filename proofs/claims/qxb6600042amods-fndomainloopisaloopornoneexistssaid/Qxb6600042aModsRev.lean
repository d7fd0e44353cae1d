import Derived.Test.Qxb6600042aModsBase
import Derived.BigRegion
namespace Go.Proofs.Qxb6600042aMods
open Go.RowKit

/-- The row when the first i and the last i have changed places. -/
def rv (xs : List Int) (i : Nat) : List Int := (List.range xs.length).map fun t => if t < i ∨ xs.length - i ≤ t then xs.getD (xs.length - 1 - t) 0 else xs.getD t 0

theorem rv_length (xs : List Int) (i : Nat) : (rv xs i).length = xs.length := by simp [rv]
theorem rv_get (xs : List Int) (i t : Nat) (h : t < xs.length) : (rv xs i).getD t 0 = if t < i ∨ xs.length - i ≤ t then xs.getD (xs.length - 1 - t) 0 else xs.getD t 0 := by
  simp [rv, List.getD, h]
theorem rv_zero (xs : List Int) : rv xs 0 = xs := by
  apply List.ext_getElem (rv_length _ _)
  intro t h1 h2
  have h3 : ¬ xs.length ≤ t := by omega
  simp [rv, h2, h3, List.getD]
theorem rv_full (xs : List Int) (i : Nat) (h : xs.length ≤ i + i + 1) (h0 : i < xs.length) : rv xs i = xs.reverse := by
  apply List.ext_getElem (by simp [rv])
  intro t h1 h2
  have ht : t < xs.length := by simpa [rv] using h1
  rw [List.getElem_reverse]
  simp only [rv, List.getElem_map, List.getElem_range]
  by_cases h3 : t < i ∨ xs.length - i ≤ t
  · rw [if_pos h3]
    simp [List.getD, show xs.length - 1 - t < xs.length by omega]
  · rw [if_neg h3]
    have e : xs.length - 1 - t = t := by omega
    simp [List.getD, ht, e]
theorem rv_step (xs : List Int) (i j : Nat) (h : i + j + 1 = xs.length) (hij : i < j) : ((rv xs i).set i (xs.getD j 0)).set j (xs.getD i 0) = rv xs (i + 1) := by
  apply List.ext_getElem (by simp [rv])
  intro t h1 h2
  have ht : t < xs.length := by simpa [rv] using h2
  rw [List.getElem_set, List.getElem_set]
  simp only [rv, List.getElem_map, List.getElem_range]
  by_cases e1 : j = t
  · subst e1
    rw [if_pos rfl, if_pos (by omega)]
    congr 1
    omega
  · rw [if_neg e1]
    by_cases e2 : i = t
    · subst e2
      rw [if_pos rfl, if_pos (by omega)]
      congr 1
      omega
    · rw [if_neg e2]
      by_cases h3 : t < i ∨ xs.length - i ≤ t
      · rw [if_pos h3, if_pos (by omega)]
      · rw [if_neg h3, if_neg (by omega)]

set_option maxHeartbeats 1000000 in
theorem reverse_any (B g cap n : Nat) (xs : List Int) (w : World) (hn : xs.length = n) (h1 : 1 ≤ n) (hnm : n ≤ 1099511627776) (hBg : B ≤ g) (hown : w.ownsRow B 3 1 (.slice (some ⟨g, 0, none⟩) n cap) n (ints xs)) :
    Calls Trym.prog 21 #[.slice (some ⟨g, 0, none⟩) n cap] w fun e w' => e = .returned (.tuple #[]) ∧ w'.ownsRow B 3 1 (.slice (some ⟨g, 0, none⟩) n cap) n (ints xs.reverse) ∧ Below B w w' := by
  have Hn := hide hn
  have HO := hide hown
  clear hown hn
  go_enter Trym.func21, Trym.ntmps21
  go_wp2
  go_loopw [2, 3] (fun i j wr => ∃ a b : Nat, a + b + 1 = n ∧ a ≤ b + 1 ∧ i = .int .i64 a ∧ j = .int .i64 b ∧ wr.ownsRow B 3 1 (.slice (some ⟨g, 0, none⟩) n cap) n (ints (rv xs a)) ∧ Below B w wr) (fun _ j _ => (intOf j).toNat)
  case atStart => exact ⟨0, n - 1, by omega, by omega, rfl, by go_num, by rw [rv_zero]; exact unhide HO, Below.refl _ _⟩
  case round =>
    obtain ⟨a, b, hab, hle, rfl, rfl, hown, hbel⟩ := hrel
    have Hab := hide hab
    have hb1 : b < n := by omega
    have ha1 : a < n := by omega
    clear hab
    by_cases hlt : a < b
    · have hl := unhide Hn
      have hab := unhide Hab
      obtain ⟨x, hx⟩ : ∃ x, x = xs.getD a 0 := ⟨_, rfl⟩
      obtain ⟨y, hy⟩ : ∃ y, y = xs.getD b 0 := ⟨_, rfl⟩
      have c1 : wr.cell? ⟨g, a, none⟩ = some (.int .i64 x) := by
        rw [hown.cellAt a (by omega), ints_get _ _ (by rw [rv_length]; omega), rv_get _ _ _ (by omega), if_neg (by omega), hx]
      have c2 : wr.cell? ⟨g, b, none⟩ = some (.int .i64 y) := by
        rw [hown.cellAt b (by omega), ints_get _ _ (by rw [rv_length]; omega), rv_get _ _ _ (by omega), if_neg (by omega), hy]
      have f1 := hown.frozenAt a
      have f2 := hown.frozenAt b
      have HX := hide hx
      have HY := hide hy
      have HO2 := hide hown
      clear hl hab hx hy hown
      have d1 : (a : Int) < n := by omega
      have d2 : (b : Int) < n := by omega
      go_wp2
      go_region
      all_goals
        go_wp2
        go_roundw
        case rel =>
          go_light
          have hl := unhide Hn
          have hab := unhide Hab
          refine ⟨a + 1, b - 1, by omega, by omega, by go_num, by go_num, ?_, ((hbel.setCell hBg _).setCell hBg _).drew⟩
          have h2 := ((unhide HO2).stored a (.int .i64 y)).1
          have h3 := (h2.stored b (.int .i64 x)).1
          rw [ints_set, ints_set, unhide HX, unhide HY, rv_step xs a b (by omega) hlt] at h3
          rw [← unhide HX, ← unhide HY] at h3
          exact h3
        case measure => go_light; simp [intOf]; omega
    · have hfin := rv_full xs a (by have := unhide Hn; have := unhide Hab; omega) (by have := unhide Hn; omega)
      rw [hfin] at hown
      have HO2 := hide hown
      clear hown hfin
      go_wp2
      go_end0
      exact ⟨rfl, unhide HO2, hbel⟩

set_option maxHeartbeats 1000000 in
theorem reverse_zero (p : Option Addr) (cap : Nat) (w : World) :
    Calls Trym.prog 21 #[.slice p 0 cap] w fun e w' => e = .returned (.tuple #[]) ∧ w' = w := by
  go_enter Trym.func21, Trym.ntmps21
  go_wp2
  refine wp_loop_rounds 1 ?_
  rw [rounds_succ]
  go_wp2
  go_end0
  exact ⟨rfl, rfl⟩

/-- slices.Reverse on a row of the call's own, nil or empty too. -/
theorem reverse_own (B : Nat) (v : Value) (n : Nat) (xs : List Int) (w : World) (hnm : n ≤ 1099511627776) (hown : w.ownsRow B 3 1 v n (ints xs)) :
    Calls Trym.prog 21 #[v] w fun e w' => e = .returned (.tuple #[]) ∧ w'.ownsRow B 3 1 v n (ints xs.reverse) ∧ Below B w w' := by
  have hl : xs.length = n := by simpa [ints] using hown.1
  rcases Nat.eq_zero_or_pos n with h0 | h0
  · subst h0
    have hx : xs = [] := List.eq_nil_of_length_eq_zero hl
    subst hx
    obtain ⟨p, c, rfl, _⟩ := shows_own hown
    refine (reverse_zero p c w).mono ?_
    rintro e w' ⟨rfl, rfl⟩
    exact ⟨rfl, hown, Below.refl _ _⟩
  · have h0' := hown
    rcases hown.2 with ⟨_, h2⟩ | ⟨g, cap, cur, rfl, hg, _⟩
    · omega
    · exact reverse_any B g cap n xs w hl h0 hnm hg h0'

end Go.Proofs.Qxb6600042aMods
