import Derived.Test.Qxb6601444aModsIsr
namespace Go.Proofs.Qxb6601444aMods
open Go.RowKit

set_option maxHeartbeats 1000000 in
theorem zzbytes6 (p : Option Addr) (n c : Nat) (w : World) (hn : n ≤ 9223372036854775807) :
    Calls Trym.prog 6 #[.slice p n c] w fun e w' => e = .returned (.bool (decide (n ≤ 1048576))) ∧ w' = w := by
  by_cases h : n ≤ 1048576
  · rw [decide_eq_true h]
    have h1 : ¬ (1048576 : Int) < n := by omega
    go_enter Trym.func6, Trym.ntmps6
    go_wp2
    go_ret
    exact ⟨rfl, rfl⟩
  · rw [decide_eq_false h]
    have h1 : (1048576 : Int) < n := by omega
    go_enter Trym.func6, Trym.ntmps6
    go_wp2
    go_ret
    exact ⟨rfl, rfl⟩

set_option maxHeartbeats 1000000 in
theorem walkB (p : Option Addr) (n c : Nat) (xs : List Int) (w : World) (hx : xs.length = n) (hnc : n ≤ c) (hcm : c ≤ maxLen) (hp : p = none → n = 0 ∧ c = 0) (hby : ∀ x ∈ xs, 0 ≤ x ∧ x < 256) (hs : Shows w p n xs) :
    Calls Trym.prog 3 #[.slice p n c] w fun e w' => e = .returned (.bool true) ∧ Below w.heap.size w w' := by
  have hcm' := hcm
  unfold maxLen at hcm'
  have Hz := hide (zzbytes6 p n c w (by omega))
  by_cases h : n ≤ 1048576
  · have HC := hide (clone_any p n c xs w hx (by omega) hp hs)
    rw [decide_eq_true h] at Hz
    have h1 : ¬ (1048576 : Int) < n := by omega
    have Hx := hide hx
    have Hby := hide hby
    clear hs hp hx hby
    go_enter Trym.func3, Trym.ntmps3
    go_wp2_with fail
    refine (unhide Hz).mono ?_
    rintro e w1 ⟨rfl, rfl⟩
    go_wp2_with fail
    refine (unhide HC).mono ?_
    rintro e w2 ⟨v, rfl, hown, hb1⟩
    obtain ⟨p2, c2, hv, g1, g2, g3, g4, g5⟩ := shows_own hown
    rw [hv]
    have HD := hide (zzdec_any p2 n c2 xs w2 (unhide Hx) g1 g2 (unhide Hby) g4)
    have HS := hide g4
    clear g4 hown hv g5 g3
    go_wp2_with fail
    refine (unhide HD).mono ?_
    rintro e w3 ⟨rfl, hb2⟩
    have HE := hide (isr_any p2 n c2 xs w3 (unhide Hx) g1 g2 ((unhide HS).below hb2))
    rw [← dec_isR] at HE
    go_wp2_with fail
    refine (unhide HE).mono ?_
    rintro e w4 ⟨rfl, hb3⟩
    go_wp2
    go_ret
    refine ⟨by simp, ?_⟩
    exact (hb1.trans (hb2.mono hb1.size)).trans (hb3.mono (Nat.le_trans hb1.size hb2.size))
  · rw [decide_eq_false h] at Hz
    clear hs hp hx hby
    go_enter Trym.func3, Trym.ntmps3
    go_wp2_with fail
    refine (unhide Hz).mono ?_
    rintro e w1 ⟨rfl, rfl⟩
    go_wp2
    go_ret
    exact ⟨rfl, Below.refl _ _⟩

end Go.Proofs.Qxb6601444aMods
