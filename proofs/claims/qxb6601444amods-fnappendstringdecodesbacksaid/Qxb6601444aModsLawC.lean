import Derived.Test.Qxb6601444aModsEnc
import Derived.Test.Qxb6601444aModsDecode
import Derived.Test.Qxb6601444aModsSame
namespace Go.Proofs.Qxb6601444aMods
open Go.RowKit

set_option maxHeartbeats 1000000 in
theorem zzbytes11 (p q : Option Addr) (n c m d : Nat) (w : World) (hn : n ≤ 9223372036854775807) (hm : m ≤ 9223372036854775807) :
    Calls Trym.prog 11 #[.slice p n c, .slice q m d] w fun e w' => e = .returned (.bool (decide (n + m ≤ 1048576))) ∧ w' = w := by
  by_cases h : n ≤ 1048576
  · have h1 : ¬ (1048576 : Int) < n := by omega
    by_cases h2 : m ≤ 1048576
    · have h3 : ¬ (1048576 : Int) < m := by omega
      by_cases h4 : n + m ≤ 1048576
      · rw [decide_eq_true h4]
        have h5 : ¬ (1048576 : Int) < (n : Int) + m := by omega
        go_enter Trym.func11, Trym.ntmps11
        go_wp2
        go_ret
        exact ⟨rfl, rfl⟩
      · rw [decide_eq_false h4]
        have h5 : (1048576 : Int) < (n : Int) + m := by omega
        go_enter Trym.func11, Trym.ntmps11
        go_wp2
        go_ret
        exact ⟨rfl, rfl⟩
    · rw [decide_eq_false (show ¬ n + m ≤ 1048576 by omega)]
      have h3 : (1048576 : Int) < m := by omega
      go_enter Trym.func11, Trym.ntmps11
      go_wp2
      go_ret
      exact ⟨rfl, rfl⟩
  · rw [decide_eq_false (show ¬ n + m ≤ 1048576 by omega)]
    have h1 : (1048576 : Int) < n := by omega
    go_enter Trym.func11, Trym.ntmps11
    go_wp2
    go_ret
    exact ⟨rfl, rfl⟩

/-- cloneBytes gives a full slice. -/
theorem clone_full (p : Option Addr) (n c : Nat) (xs : List Int) (w : World) (hx : xs.length = n) (hn : n ≤ 140737488355328) (hp : p = none → n = 0 ∧ c = 0) (hs : Shows w p n xs) :
    Calls Trym.prog 7 #[.slice p n c] w fun e w' => ∃ p', e = .returned (.slice p' n n) ∧ (p' = none → n = 0) ∧ Shows w' p' n xs ∧ Below w.heap.size w w' := by
  have key : ∀ (w' : World) (p' : Option Addr), w'.ownsRow w.heap.size 5 1 (.slice p' n n) n (xs.map (Value.int .u8)) → (p' = none → n = 0) ∧ Shows w' p' n xs := by
    intro w' p' h
    obtain ⟨p2, c2, h1, _, _, _, h2, h3⟩ := shows_own h
    cases h1
    exact ⟨fun h => (h3 h).1, h2⟩
  cases p with
  | none =>
    obtain ⟨rfl, rfl⟩ := hp rfl
    refine (clone_nil w).mono ?_
    rintro e w' ⟨rfl, rfl⟩
    exact ⟨none, rfl, fun _ => rfl, .inl rfl, Below.refl _ _⟩
  | some a =>
    rcases hs with rfl | ⟨b, o, h1, h2, h3⟩
    · refine (clone_zero a c w).mono ?_
      rintro e w' ⟨rfl, h4, h5⟩
      exact ⟨_, rfl, fun _ => rfl, .inl rfl, h5⟩
    · cases h1
      refine (clone_some b o n c xs w hx hn h2 h3).mono ?_
      rintro e w' ⟨rfl, h4, h5⟩
      exact ⟨_, rfl, (key _ _ h4).1, (key _ _ h4).2, h5⟩

set_option maxHeartbeats 2000000 in
theorem walkC_in (p q : Option Addr) (n c m d : Nat) (xs ss : List Int) (w : World) (hx : xs.length = n) (hs : ss.length = m) (hn : n ≤ 524288) (hm : m ≤ 524288) (hp : p = none → n = 0 ∧ c = 0) (hq : q = none → m = 0 ∧ d = 0)
    (hby : ∀ x ∈ ss, 0 ≤ x ∧ x < 256) (hsx : Shows w p n xs) (hss : Shows w q m ss)
    (Hz : Hid (Calls Trym.prog 11 #[.slice p n c, .slice q m d] w fun e w' => e = .returned (.bool true) ∧ w' = w)) :
    Calls Trym.prog 5 #[.slice p n c, .slice q m d] w fun e w' => e = .returned (.bool true) ∧ Below w.heap.size w w' := by
  have HC1 := hide (clone_full p n c xs w hx (by omega) hp hsx)
  have HS := hide hss
  have Hx := hide hx
  have Hs := hide hs
  have Hby := hide hby
  have Hq := hide hq
  have h1 : ¬ (524288 : Int) < n := by omega
  have h2 : ¬ (524288 : Int) < m := by omega
  clear hsx hss hp hq hx hs hby
  go_enter Trym.func5, Trym.ntmps5
  go_wp2_with fail
  refine (unhide Hz).mono ?_
  rintro e w0 ⟨rfl, rfl⟩
  go_wp2_with fail
  refine (unhide HC1).mono ?_
  rintro e w1 ⟨p1, rfl, g1, g2, b1⟩
  have HC2 := hide (clone_full q m d ss w1 (unhide Hs) (by omega) (unhide Hq) ((unhide HS).below b1))
  have G2 := hide g2
  have G1 := hide g1
  clear g1 g2
  go_wp2_with fail
  refine (unhide HC2).mono ?_
  rintro e w2 ⟨p2, rfl, k1, k2, b2⟩
  have HC3 := hide (clone_full p1 n n xs w2 (unhide Hx) (by omega) (fun h => ⟨unhide G1 h, unhide G1 h⟩) ((unhide G2).below b2))
  have K2 := hide k2
  have K1 := hide k1
  clear k1 k2
  go_wp2_with fail
  refine (unhide HC3).mono ?_
  rintro e w3 ⟨p3, rfl, l1, l2, b3⟩
  have L2 := hide l2
  clear l1 l2
  have b23 := b2.trans (b3.mono b2.size)
  have HE := hide (zzenc_any p1 n xs p2 m m ss w3 (unhide Hx) (by omega) (unhide G1) ((unhide G2).below b23) (unhide Hs) (by omega) (Nat.le_refl _) (by unfold maxLen; omega) (unhide K1) (unhide Hby) ((unhide K2).below b3))
  go_wp2_with fail
  refine (unhide HE).mono ?_
  rintro e w4 ⟨v, rfl, hown, b4⟩
  obtain ⟨p4, c4, hv, m1, m2, m3, m4, m5⟩ := shows_own hown
  have hN : (xs ++ 34 :: esc ss ++ [34]).length = n + (34 :: esc ss ++ [34]).length := by
    rw [← unhide Hx]
    simp only [List.length_append, List.length_cons, List.length_nil]
    omega
  have hQ : 2 ≤ (34 :: esc ss ++ [34]).length := by simp
  have hQ2 : (34 :: esc ss ++ [34]).length ≤ 6 * m + 2 := by
    have h5 := esc_length ss
    have h6 := unhide Hs
    simp only [List.length_append, List.length_cons, List.length_nil]
    omega
  rw [hN] at m1 m3 m4 m5 hv
  rcases m4 with h0 | ⟨b, o, rfl, hb, hc⟩
  · omega
  · rw [hv]
    clear hown hv m5 m3
    generalize hQn : (34 :: esc ss ++ [34]).length = N at *
    have HQn := hide hQn
    have hsh1 : Shows w4 (some ⟨b, o, none⟩) n xs := by
      refine .inr ⟨b, o, rfl, hb, fun i hi => ?_⟩
      rw [hc i (by omega), List.append_assoc, List.getD_eq_getElem?_getD, List.getElem?_append_left (by rw [unhide Hx]; omega), ← List.getD_eq_getElem?_getD]
    have hcq : ∀ i, i < N → w4.cell? ⟨b, o + n + i, none⟩ = some (.int .u8 ((34 :: esc ss ++ [34]).getD i 0)) := by
      intro i hi
      rw [Nat.add_assoc, hc (n + i) (by omega), List.append_assoc, List.getD_eq_getElem?_getD, List.getElem?_append_right (by rw [unhide Hx]; omega), unhide Hx, Nat.add_sub_cancel_left, ← List.getD_eq_getElem?_getD]
    have HSA := hide (same_any (some ⟨b, o, none⟩) p3 n c4 n n xs xs w4 (by omega) (unhide Hx) (unhide Hx) hsh1 ((unhide L2).below b4))
    have Hcq := hide hcq
    have t1 : ¬ (n : Int) + N < n := by omega
    have t2 : c4 ≤ 9223372036854775807 := by unfold maxLen at m2; omega
    clear hc hsh1 hcq hQn
    go_wp2_with fail
    refine (unhide HSA).mono ?_
    rintro e w5 ⟨rfl, k, rfl⟩
    have HD := hide (decode_any b (o + n) N (c4 - n) ss m (w4.drewN k) (unhide Hs) (by omega) (unhide HQn) (by simpa using hb) (unhide Hby) (by simpa using unhide Hcq))
    go_wp2_with fail
    refine (unhide HD).mono ?_
    rintro e w6 ⟨v6, rfl, hown6, b6⟩
    obtain ⟨p6, c6, hv6, r1, r2, r3, r4, r5⟩ := shows_own hown6
    rw [hv6]
    have b5 : Below w4.heap.size w4 (w4.drewN k) := below_draws _ _ _
    have b46 := b5.trans (b6.mono (Nat.le_refl _))
    have b3' := b3.trans (b4.mono b3.size)
    have b36 := b3'.trans (b46.mono b3'.size)
    have HSB := hide (same_any p6 p2 m c6 m m ss ss w6 (by omega) (unhide Hs) (unhide Hs) r4 ((unhide K2).below b36))
    clear hown6 hv6 r4 r5 r3
    go_wp2_with fail
    refine (unhide HSB).mono ?_
    rintro e w7 ⟨rfl, k7, rfl⟩
    have b16 := b2.trans (b36.mono b2.size)
    have b06 := b1.trans (b16.mono b1.size)
    go_wp2
    go_ret
    exact ⟨by simp, below_drewN b06 k7⟩

set_option maxHeartbeats 1000000 in
theorem walkC (p q : Option Addr) (n c m d : Nat) (xs ss : List Int) (w : World) (hx : xs.length = n) (hs : ss.length = m) (hnc : n ≤ c) (hcm : c ≤ maxLen) (hmd : m ≤ d) (hdm : d ≤ maxLen) (hp : p = none → n = 0 ∧ c = 0) (hq : q = none → m = 0 ∧ d = 0)
    (hby : ∀ x ∈ ss, 0 ≤ x ∧ x < 256) (hsx : Shows w p n xs) (hss : Shows w q m ss) :
    Calls Trym.prog 5 #[.slice p n c, .slice q m d] w fun e w' => e = .returned (.bool true) ∧ Below w.heap.size w w' := by
  unfold maxLen at hcm hdm
  have Hz := hide (zzbytes11 p q n c m d w (by omega) (by omega))
  by_cases h : n + m ≤ 1048576
  · rw [decide_eq_true h] at Hz
    by_cases h1 : n ≤ 524288
    · by_cases h2 : m ≤ 524288
      · exact walkC_in p q n c m d xs ss w hx hs h1 h2 hp hq hby hsx hss Hz
      · have t1 : ¬ (524288 : Int) < n := by omega
        have t2 : (524288 : Int) < m := by omega
        clear hsx hss hp hq hx hs hby
        go_enter Trym.func5, Trym.ntmps5
        go_wp2_with fail
        refine (unhide Hz).mono ?_
        rintro e w0 ⟨rfl, rfl⟩
        go_wp2
        go_ret
        exact ⟨rfl, Below.refl _ _⟩
    · have t1 : (524288 : Int) < n := by omega
      clear hsx hss hp hq hx hs hby
      go_enter Trym.func5, Trym.ntmps5
      go_wp2_with fail
      refine (unhide Hz).mono ?_
      rintro e w0 ⟨rfl, rfl⟩
      go_wp2
      go_ret
      exact ⟨rfl, Below.refl _ _⟩
  · rw [decide_eq_false h] at Hz
    clear hsx hss hp hq hx hs hby
    go_enter Trym.func5, Trym.ntmps5
    go_wp2_with fail
    refine (unhide Hz).mono ?_
    rintro e w0 ⟨rfl, rfl⟩
    go_wp2
    go_ret
    exact ⟨rfl, Below.refl _ _⟩

end Go.Proofs.Qxb6601444aMods
