import Derived.Test.Qxb6601444aModsTrim
import Derived.Deep.QuietTactic
import Derived.BigQuiet
namespace Go.Proofs.Qxb6601444aMods
open Go.RowKit

theorem below_draws (B : Nat) (w : World) (q : Nat) : Below B w (w.drewN q) := ⟨rfl, rfl, rfl, Nat.le_refl _, fun _ _ => rfl⟩

theorem drewN_twice (w : World) (a b : Nat) : (w.drewN a).drewN b = w.drewN (a + b) := by
  simp [World.drewN, Nat.add_assoc]

theorem eq_of_take (xs ys : List Int) (hl : xs.length = ys.length) (k : Nat) (hk : xs.length ≤ k) (h : ∀ j, j < k → xs.getD j 0 = ys.getD j 0) : xs = ys := by
  apply List.ext_getElem hl
  intro j h1 h2
  have := h j (by omega)
  simpa [List.getD, h1, h2] using this

theorem ret_bool' {a b : Bool} (h : a = b) : Ending.returned (.bool b) = .returned (.bool a) := by rw [h]

set_option maxHeartbeats 1000000 in
theorem same_len (p q : Option Addr) (n c m d : Nat) (w : World) (h : n ≠ m) :
    Calls Trym.prog 13 #[.slice p n c, .slice q m d] w fun e w' => e = .returned (.bool false) ∧ w' = w := by
  have hne : ((n : Int) != (m : Int)) = true := by rw [bne_iff_ne]; omega
  go_enter Trym.func13, Trym.ntmps13
  go_wp2
  go_ret
  exact ⟨rfl, rfl⟩

set_option maxHeartbeats 1000000 in
theorem same_zero (p q : Option Addr) (c d : Nat) (w : World) :
    Calls Trym.prog 13 #[.slice p 0 c, .slice q 0 d] w fun e w' => e = .returned (.bool true) ∧ w' = w := by
  go_enter Trym.func13, Trym.ntmps13
  go_wp2
  refine wp_loop_rounds 1 ?_
  rw [rounds_succ]
  go_wp2
  go_ret
  exact ⟨rfl, rfl⟩

set_option maxHeartbeats 1000000 in
theorem same_some (b1 o1 b2 o2 n c d : Nat) (xs ys : List Int) (w : World) (hn : n ≤ 9223372036854775807) (hx : xs.length = n) (hy : ys.length = n)
    (hc1 : ∀ i, i < n → w.cell? ⟨b1, o1 + i, none⟩ = some (.int .u8 (xs.getD i 0))) (hc2 : ∀ i, i < n → w.cell? ⟨b2, o2 + i, none⟩ = some (.int .u8 (ys.getD i 0))) :
    Calls Trym.prog 13 #[.slice (some ⟨b1, o1, none⟩) n c, .slice (some ⟨b2, o2, none⟩) n d] w fun e w' => e = .returned (.bool (decide (xs = ys))) ∧ ∃ q, w' = w.drewN q := by
  have Hx := hide hx
  have Hy := hide hy
  have Hc1 := hide hc1
  have Hc2 := hide hc2
  clear hx hy hc1 hc2
  obtain ⟨r, hr⟩ : ∃ r, r = decide (xs = ys) := ⟨_, rfl⟩
  rw [← hr]
  have HR := hide hr
  clear hr
  go_enter Trym.func13, Trym.ntmps13
  go_wp2
  go_loopw [5] (fun i wr => ∃ k q : Nat, k ≤ n ∧ i = .int .i64 k ∧ wr = w.drewN q ∧ Hid (∀ j, j < k → xs.getD j 0 = ys.getD j 0)) (fun i _ => n - (intOf i).toNat)
  case atStart => exact ⟨0, 0, Nat.zero_le _, rfl, rfl, hide (fun j hj => by omega)⟩
  case round =>
    obtain ⟨k, q, hk, rfl, rfl, HJ⟩ := hrel
    by_cases hlt : k < n
    · obtain ⟨x, hx⟩ : ∃ x, x = xs.getD k 0 := ⟨_, rfl⟩
      obtain ⟨y, hy⟩ : ∃ y, y = ys.getD k 0 := ⟨_, rfl⟩
      have h1 : w.cell? ⟨b1, o1 + k, none⟩ = some (.int .u8 x) := by rw [hx]; exact unhide Hc1 k hlt
      have h2 : w.cell? ⟨b2, o2 + k, none⟩ = some (.int .u8 y) := by rw [hy]; exact unhide Hc2 k hlt
      have HX := hide hx
      have HY := hide hy
      clear hx hy
      have hlt' : (k : Int) < (n : Int) := by omega
      by_cases he : x = y
      · have he' : (x != y) = false := by simp [he]
        go_wp2
        go_quiet (fail)
        go_wp2
        go_roundw
        case rel =>
          refine ⟨k + 1, _, by omega, by go_num, rfl, hide (fun j hj => ?_)⟩
          rcases Nat.lt_or_ge j k with h | h
          · exact unhide HJ j h
          · obtain rfl : j = k := by omega
            rw [← unhide HX, ← unhide HY]
            exact he
        case measure => simp [intOf]; omega
      · have he' : (x != y) = true := by rw [bne_iff_ne]; exact he
        have HF : Hid (r = false) := by
          rw [unhide HR]
          refine decide_eq_false (fun e => he ?_)
          rw [unhide HX, unhide HY, e]
        go_wp2
        go_quiet (fail)
        go_wp2
        go_ret
        exact ⟨ret_bool' (unhide HF), _, drewN_twice _ _ _⟩
    · have HF : Hid (r = true) := by
        rw [unhide HR]
        exact decide_eq_true (eq_of_take xs ys ((unhide Hx).trans (unhide Hy).symm) k (by have := unhide Hx; omega) (unhide HJ))
      go_wp2
      go_ret
      exact ⟨ret_bool' (unhide HF), _, rfl⟩

/-- sameBytes, whatever slices. -/
theorem same_any (p q : Option Addr) (n c m d : Nat) (xs ys : List Int) (w : World) (hn : n ≤ 9223372036854775807) (hx : xs.length = n) (hy : ys.length = m)
    (h1 : Shows w p n xs) (h2 : Shows w q m ys) :
    Calls Trym.prog 13 #[.slice p n c, .slice q m d] w fun e w' => e = .returned (.bool (decide (xs = ys))) ∧ ∃ k, w' = w.drewN k := by
  by_cases h : n = m
  · subst h
    rcases h1 with h1 | ⟨b1, o1, rfl, h1, hc1⟩
    · subst h1
      refine (same_zero p q c d w).mono ?_
      rintro e w' ⟨rfl, rfl⟩
      have e1 := List.eq_nil_of_length_eq_zero hx
      have e2 := List.eq_nil_of_length_eq_zero hy
      subst e1; subst e2
      exact ⟨rfl, 0, rfl⟩
    · rcases h2 with h2 | ⟨b2, o2, rfl, h2, hc2⟩
      · subst h2
        refine (same_zero _ q c d w).mono ?_
        rintro e w' ⟨rfl, rfl⟩
        have e1 := List.eq_nil_of_length_eq_zero hx
        have e2 := List.eq_nil_of_length_eq_zero hy
        subst e1; subst e2
        exact ⟨rfl, 0, rfl⟩
      · exact same_some b1 o1 b2 o2 n c d xs ys w hn hx hy hc1 hc2
  · refine (same_len p q n c m d w h).mono ?_
    rintro e w' ⟨rfl, rfl⟩
    refine ⟨ret_bool' (decide_eq_false (fun e => h ?_)), 0, rfl⟩
    rw [← hx, ← hy, e]

end Go.Proofs.Qxb6601444aMods
