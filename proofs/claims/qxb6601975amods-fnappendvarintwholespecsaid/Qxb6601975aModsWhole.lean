import Derived.Test.Qxb6601975aModsCanon
namespace Go.Proofs.Qxb6601975aMods
open Go.RowKit

theorem drewN_twice (w : World) (a b : Nat) : (w.drewN a).drewN b = w.drewN (a + b) := by
  simp [World.drewN, Nat.add_assoc]
theorem below_draws (B : Nat) (w : World) (q : Nat) : Below B w (w.drewN q) := ⟨rfl, rfl, rfl, Nat.le_refl _, fun _ _ => rfl⟩

set_option maxHeartbeats 1000000 in
theorem zzbytes6 (p : Option Addr) (n c : Nat) (v : Int) (w : World) (hn : n ≤ 9223372036854775807) :
    Calls Trym.prog 6 #[.slice p n c, .int .u64 v] w fun e w' => e = .returned (.bool (decide (n ≤ 1048576))) ∧ w' = w := by
  by_cases h : n ≤ 1048576
  · rw [decide_eq_true h]
    have h1 : ¬ (1048576 : Int) < n := by omega
    go_enter Trym.func6, Trym.ntmps6
    go_wp2
    go_ret
    exact ⟨rfl, rfl⟩
  · rw [decide_eq_false h]
    have h1 : (1048576 : Int) < n := by omega
    go_enter Trym.func6, Trym.ntmps6
    go_wp2
    go_ret
    exact ⟨rfl, rfl⟩

/-- copyBytes gives a full slice. -/
theorem clone_full (p : Option Addr) (n c : Nat) (xs : List Int) (w : World) (hx : xs.length = n) (hn : n ≤ 140737488355328) (hp : p = none → n = 0 ∧ c = 0) (hs : Shows w p n xs) :
    Calls Trym.prog 7 #[.slice p n c] w fun e w' => ∃ p', e = .returned (.slice p' n n) ∧ (p' = none → n = 0) ∧ Shows w' p' n xs ∧ Below w.heap.size w w' := by
  have key : ∀ (w' : World) (p' : Option Addr), w'.ownsRow w.heap.size 5 1 (.slice p' n n) n (xs.map (Value.int .u8)) → (p' = none → n = 0) ∧ Shows w' p' n xs := by
    intro w' p' h
    obtain ⟨p2, c2, h1, _, _, _, h2, h3⟩ := shows_own h
    cases h1
    exact ⟨fun h => (h3 h).1, h2⟩
  cases p with
  | none =>
    obtain ⟨rfl, rfl⟩ := hp rfl
    refine (clone_nil w).mono ?_
    rintro e w' ⟨rfl, rfl⟩
    exact ⟨none, rfl, fun _ => rfl, .inl rfl, Below.refl _ _⟩
  | some a =>
    rcases hs with rfl | ⟨b, o, h1, h2, h3⟩
    · refine (clone_zero a c w).mono ?_
      rintro e w' ⟨rfl, h4, h5⟩
      exact ⟨_, rfl, fun _ => rfl, .inl rfl, h5⟩
    · cases h1
      refine (clone_some b o n c xs w hx hn h2 h3).mono ?_
      rintro e w' ⟨rfl, h4, h5⟩
      exact ⟨_, rfl, (key _ _ h4).1, (key _ _ h4).2, h5⟩

set_option maxHeartbeats 2000000 in
theorem whole_in (p : Option Addr) (n c : Nat) (xs : List Int) (v : Nat) (w : World) (hv : v < 18446744073709551616) (hx : xs.length = n) (hn : n ≤ 1048576) (hp : p = none → n = 0 ∧ c = 0) (hs : Shows w p n xs) :
    Calls Trym.prog 3 #[.slice p n c, .int .u64 v] w fun e w' => e = .returned (.bool true) ∧ Below w.heap.size w w' := by
  have Hz := hide (zzbytes6 p n c (v : Int) w (by omega))
  rw [decide_eq_true hn] at Hz
  have t1 : ¬ (1048576 : Int) < n := by omega
  have HC := hide (clone_full p n c xs w hx (by omega) hp hs)
  have HX := hide hx
  clear hs hp hx
  go_enter Trym.func3, Trym.ntmps3
  go_wp2_with fail
  refine (unhide Hz).mono ?_
  rintro e w0 ⟨rfl, rfl⟩
  go_wp2_with fail
  refine (unhide HC).mono ?_
  rintro e w1 ⟨p1, rfl, g1, g2, b1⟩
  have HV := hide (varint_new p1 n xs v w1 hv (by omega) (unhide HX) g1 g2)
  have HSX := hide g2
  clear g1 g2
  go_wp2_with fail
  refine (unhide HV).mono ?_
  rintro e w2 ⟨v2, rfl, hown, b2⟩
  obtain ⟨p2, c2, hv2, m1, m2, m3, m4, m5⟩ := shows_own hown
  have hp0 := enc_pos v
  have hN : (xs ++ enc v).length = n + (enc v).length := by rw [List.length_append, unhide HX]
  rw [hN] at m1 m3 m4 m5 hv2
  have hSX2 := (unhide HSX).below b2
  rcases m4 with h0 | ⟨b, o, rfl, hb, hc⟩
  · omega
  · rw [hv2]
    obtain ⟨L, hL⟩ : ∃ L, (enc v).length = L := ⟨_, rfl⟩
    rw [hL] at hc m1 hp0 ⊢
    have hg : ∀ i, i < n → w2.cell? ⟨b, o + i, none⟩ = some (.int .u8 (xs.getD i 0)) := by
      intro i hi
      rw [hc i (by omega), List.getD_eq_getElem?_getD, List.getElem?_append_left (by rw [unhide HX]; omega), ← List.getD_eq_getElem?_getD]
    have he : ∀ i, i < L → w2.cell? ⟨b, o + n + i, none⟩ = some (.int .u8 ((enc v).getD i 0)) := by
      intro i hi
      rw [Nat.add_assoc, hc (n + i) (by omega), List.getD_eq_getElem?_getD, List.getElem?_append_right (by rw [unhide HX]; omega), unhide HX, Nat.add_sub_cancel_left, ← List.getD_eq_getElem?_getD]
    have HG := hide hg
    have HE := hide he
    have HL := hide hL
    have HS2 := hide hSX2
    have t2 : c2 ≤ 9223372036854775807 := by unfold maxLen at m2; omega
    have t3 : ¬ (n : Int) + L < n := by omega
    clear hg he hc hown hv2 m5 m3 hN hL hSX2
    go_wp2
    go_loopw [6] (fun i wr => ∃ k q : Nat, k ≤ n ∧ i = .int .i64 k ∧ wr = w2.drewN q) (fun i _ => n - (intOf i).toNat)
    case atStart => exact ⟨0, 0, Nat.zero_le _, rfl, rfl⟩
    case round =>
      obtain ⟨k, q, hk, rfl, rfl⟩ := hrel
      by_cases hlt : k < n
      · rcases unhide HS2 with h0 | ⟨b3, o3, rfl, hb3, hc3⟩
        · omega
        · obtain ⟨x, hxd⟩ : ∃ x, x = xs.getD k 0 := ⟨_, rfl⟩
          have k1 := unhide HG k hlt
          have k2 := hc3 k hlt
          rw [← hxd] at k1 k2
          have d1 : (k : Int) < n := by omega
          have d2 : (k : Int) < (n : Int) + L := by omega
          have hne : (x != x) = false := by simp
          clear hxd hc3
          go_wp2
          go_quiet (fail)
          go_wp2
          go_roundw
          case rel => exact ⟨k + 1, _, by omega, by go_num, rfl⟩
          case measure => go_light; simp [intOf]; omega
      · have HK := hide (canon_any b (o + n) L (c2 - n) v (w2.drewN q) hv (unhide HL) (by simpa using unhide HE))
        go_wp2_with fail
        refine (unhide HK).mono ?_
        rintro e w4 ⟨rfl, hw4⟩
        subst hw4
        go_wp2
        go_ret
        exact ⟨rfl, (b1.trans (b2.mono b1.size)).trans (below_draws _ _ _)⟩

set_option maxHeartbeats 1000000 in
theorem whole_any (p : Option Addr) (n c : Nat) (xs : List Int) (v : Int) (w : World) (hv0 : 0 ≤ v) (hv : v < 18446744073709551616) (hx : xs.length = n) (hn : n ≤ 9223372036854775807) (hp : p = none → n = 0 ∧ c = 0) (hs : Shows w p n xs) :
    Calls Trym.prog 3 #[.slice p n c, .int .u64 v] w fun e w' => e = .returned (.bool true) ∧ Below w.heap.size w w' := by
  obtain ⟨m, rfl⟩ := Int.eq_ofNat_of_zero_le hv0
  by_cases h : n ≤ 1048576
  · exact whole_in p n c xs m w (by omega) hx h hp hs
  · have Hz := hide (zzbytes6 p n c (m : Int) w hn)
    rw [decide_eq_false h] at Hz
    clear hs hp hx
    go_enter Trym.func3, Trym.ntmps3
    go_wp2_with fail
    refine (unhide Hz).mono ?_
    rintro e w0 ⟨rfl, rfl⟩
    go_wp2
    go_ret
    exact ⟨rfl, Below.refl _ _⟩

end Go.Proofs.Qxb6601975aMods
