import Derived.Test.Qxb6601444aModsVal
import Derived.Test.Qxb6601444aModsSame
namespace Go.Proofs.Qxb6601444aMods
open Go.RowKit
set_option linter.unusedVariables false

theorem pow_le18 (k m : Nat) (hk : k < m) (hm : m ≤ 19) : 10 ^ k ≤ 1000000000000000000 := by
  have : (1000000000000000000 : Nat) = 10 ^ 18 := rfl
  rw [this]
  exact Nat.pow_le_pow_right (by omega) (by omega)

theorem all_take_k (l : List Int) (k : Nat) (hk : k ≤ l.length) (h : ∀ j, j < k → digB (l.getD j 0) = true) : (l.take k).all digB = true := by
  apply all_take (l.take k) k
  · intro j hj
    have := h j hj
    rwa [List.getD_eq_getElem?_getD, List.getElem?_take_of_lt hj, ← List.getD_eq_getElem?_getD]
  · simp; omega

set_option maxHeartbeats 1000000 in
theorem isr_short (p : Option Addr) (n c : Nat) (xs : List Int) (w : World) (hx : xs.length = n) (h : n = 0 ∨ 19 < n) :
    Calls Trym.prog 9 #[.slice p n c] w fun e w' => e = .returned (.bool (isR xs)) ∧ w' = w := by
  have e : isR xs = false := by unfold isR; rw [if_pos (by omega)]
  rw [e]
  clear e hx
  rcases h with rfl | h
  · go_enter Trym.func9, Trym.ntmps9
    go_wp2
    go_ret
    exact ⟨rfl, rfl⟩
  · have h1 : ((n : Int) == 0) = false := beq_eq_false_iff_ne.2 (by omega)
    have h2 : (19 : Int) < n := by omega
    go_enter Trym.func9, Trym.ntmps9
    go_wp2
    go_ret
    exact ⟨rfl, rfl⟩

set_option maxHeartbeats 1000000 in
theorem isr_minus (b o c : Nat) (w : World) (_hc : 1 ≤ c) (h0 : w.cell? ⟨b, o, none⟩ = some (.int .u8 45)) :
    Calls Trym.prog 9 #[.slice (some ⟨b, o, none⟩) 1 c] w fun e w' => e = .returned (.bool (isR [45])) ∧ w' = w := by
  have e : isR [45] = false := rfl
  rw [e]
  clear e
  go_enter Trym.func9, Trym.ntmps9
  go_wp2
  all_goals
    go_ret
    exact ⟨rfl, rfl⟩

set_option maxHeartbeats 1000000 in
theorem isr_pos (b o n c : Nat) (xs : List Int) (w : World) (hx : xs.length = n) (h1 : 1 ≤ n) (h19 : n ≤ 19) (hnc : n ≤ c) (hcm : c ≤ maxLen) (hb : b < w.heap.size) (hn : negB xs = false)
    (hc : ∀ i, i < n → w.cell? ⟨b, o + i, none⟩ = some (.int .u8 (xs.getD i 0))) :
    Calls Trym.prog 9 #[.slice (some ⟨b, o, none⟩) n c] w fun e w' => e = .returned (.bool (isR xs)) ∧ Below w.heap.size w w' := by
  obtain ⟨x0, hx0⟩ : ∃ x0, x0 = xs.getD 0 0 := ⟨_, rfl⟩
  have hc0 : w.cell? ⟨b, o, none⟩ = some (.int .u8 x0) := by rw [hx0]; simpa using hc 0 (by omega)
  have e0 : (x0 == 45) = false := by
    simp only [negB] at hn
    rw [hx0]
    exact hn
  obtain ⟨ds, hds⟩ : ∃ ds, ds = trim xs := ⟨_, rfl⟩
  have hdx : ds = xs := by rw [hds]; exact trim_pos hn
  have hm : ds.length = n := by rw [hdx]; exact hx
  have HM := hide hm
  have HC : Hid (∀ i, i < n → w.cell? ⟨b, o + i, none⟩ = some (.int .u8 (ds.getD i 0))) := by rw [hdx]; exact hc
  have hml : 1 ≤ ds.length := by omega

  have hI : isR xs = if ds.all digB = false then false else if 1000000000000000000 ≤ val ds then false else decide (render false (val ds) = xs) := by
    unfold isR
    rw [if_neg (by omega), ← hds, if_neg (by omega), hn]
  have HI := hide hI
  have hsh : Shows w (some ⟨b, o, none⟩) n xs := .inr ⟨b, o, rfl, hb, hc⟩
  have HSH := hide hsh
  have HX := hide hx
  have hcm' := hcm
  unfold maxLen at hcm'
  generalize isR xs = res at *
  clear hI hsh hc hds hx hn hx0 hdx
  have n0 : ((n : Int) == 0) = false := beq_eq_false_iff_ne.2 (by omega)
  have n19 : ¬ (19 : Int) < n := by omega
  go_enter Trym.func9, Trym.ntmps9
  go_wp2
  go_loopw [5, 6] (fun v i wr => ∃ k u : Nat, k ≤ n ∧ i = .int .i64 k ∧ v = .int .u64 u ∧ u < 10000000000000000000 ∧ wr = w ∧ Hid (u = val (ds.take k)) ∧ Hid (∀ j, j < k → digB (ds.getD j 0) = true)) (fun _ i _ => n - (intOf i).toNat)
  case atStart => exact ⟨0, 0, Nat.zero_le _, rfl, rfl, by omega, rfl, hide (by simp [val]), hide (fun j hj => by omega)⟩
  case round =>
    obtain ⟨k, u, hk, rfl, rfl, hu, rfl, HU, HJ⟩ := hrel
    by_cases hlt : k < n
    · have hu2 : u < 1000000000000000000 := by
        have hm := unhide HM
        have h3 := val_lt _ (ds.take k) rfl (all_take_k ds k (by omega) (unhide HJ))
        rw [← unhide HU, List.length_take, Nat.min_eq_left (by omega)] at h3
        exact Nat.lt_of_lt_of_le h3 (pow_le18 k n hlt (by omega))
      obtain ⟨d, hd⟩ : ∃ d, d = ds.getD k 0 := ⟨_, rfl⟩
      have hck : wr.cell? ⟨b, o + k, none⟩ = some (.int .u8 d) := by rw [hd]; exact unhide HC k hlt
      have Hd := hide hd
      clear hd
      by_cases hg : 48 ≤ d ∧ d ≤ 57
      · obtain ⟨hg1, hg2⟩ := hg
        go_wp2
        go_roundw
        case rel =>
          refine ⟨k + 1, u * 10 + (d - 48).toNat, by omega, by go_num, by go_num, by omega, trivial, hide ?_, hide (fun j hj => ?_)⟩
          · have hm := unhide HM
            rw [val_take ds k (by omega), ← unhide HU, ← unhide Hd]
          · rcases Nat.lt_or_ge j k with h | h
            · exact unhide HJ j h
            · obtain rfl : j = k := by omega
              rw [← unhide Hd]
              exact decide_eq_true ⟨hg1, hg2⟩
        case measure => simp [intOf]; omega
      · have HF : Hid (res = false) := by
          have hm := unhide HM
          exact (unhide HI).trans (if_pos (all_not ds k (by omega) (by rw [← unhide Hd]; exact decide_eq_false hg)))
        have hg' : d < 48 ∨ ¬ d < 48 ∧ 57 < d := by omega
        clear hg
        rcases hg' with hg | ⟨hg1, hg2⟩
        all_goals
          go_wp2
          go_ret
          exact ⟨ret_bool (unhide HF), Below.refl _ _⟩
    · have hm := unhide HM
      have hall : ds.all digB = true := all_take ds k (unhide HJ) (by omega)
      have hv : u = val ds := by rw [unhide HU, List.take_of_length_le (by omega)]
      have HI2 : Hid (res = if 1000000000000000000 ≤ u then false else decide (render false u = xs)) := by
        rw [hv]
        exact (unhide HI).trans (if_neg (by rw [hall]; simp))
      clear hall hv hm HU HJ HI
      by_cases hge : 1000000000000000000 ≤ u
      · have HF := hide ((unhide HI2).trans (if_pos hge))
        have hge' : (1000000000000000000 : Int) ≤ u := by omega
        go_wp2
        go_ret
        exact ⟨ret_bool (unhide HF), Below.refl _ _⟩
      · have HF := hide ((unhide HI2).trans (if_neg hge))
        have hge' : ¬ (1000000000000000000 : Int) ≤ u := by omega
        clear HI2
        go_wp2_with fail
        refine (render_int false (u : Int) wr (by omega) (by omega)).mono ?_
        rintro e w1 ⟨p, c1, rfl, g1, g2, g3, g4⟩
        rw [Int.toNat_natCast] at g1 g3 ⊢
        have HS := hide (same_any p (some ⟨b, o, none⟩) (render false u).length c1 n c (render false u) xs w1 (by unfold maxLen at g2; omega) rfl (unhide HX) g3 ((unhide HSH).below g4))
        clear g3
        go_wp2_with fail
        refine (unhide HS).mono ?_
        rintro e w2 ⟨rfl, q, rfl⟩
        go_wp2
        go_ret
        exact ⟨ret_bool (unhide HF), below_drewN g4 q⟩

set_option maxHeartbeats 1000000 in
theorem isr_neg (b o n c : Nat) (xs : List Int) (w : World) (hx : xs.length = n) (h1 : 2 ≤ n) (h19 : n ≤ 19) (hnc : n ≤ c) (hcm : c ≤ maxLen) (hb : b < w.heap.size) (hn : negB xs = true)
    (hc : ∀ i, i < n → w.cell? ⟨b, o + i, none⟩ = some (.int .u8 (xs.getD i 0))) :
    Calls Trym.prog 9 #[.slice (some ⟨b, o, none⟩) n c] w fun e w' => e = .returned (.bool (isR xs)) ∧ Below w.heap.size w w' := by
  obtain ⟨x0, hx0⟩ : ∃ x0, x0 = xs.getD 0 0 := ⟨_, rfl⟩
  have hc0 : w.cell? ⟨b, o, none⟩ = some (.int .u8 x0) := by rw [hx0]; simpa using hc 0 (by omega)
  have e0 : (x0 == 45) = true := by
    simp only [negB] at hn
    rw [hx0]
    exact hn
  obtain ⟨ds, hds⟩ : ∃ ds, ds = trim xs := ⟨_, rfl⟩
  have hdx : xs = 45 :: ds := by rw [hds]; exact trim_neg hn
  have hm : ds.length = n - 1 := by
    have := congrArg List.length hdx
    simp at this
    omega
  have HM := hide hm
  have HC : Hid (∀ i, i < n - 1 → w.cell? ⟨b, o + 1 + i, none⟩ = some (.int .u8 (ds.getD i 0))) := by
    intro i hi
    have := hc (i + 1) (by omega)
    rw [show o + 1 + i = o + (i + 1) by omega, this, hdx]
    simp
  have hml : 1 ≤ ds.length := by omega

  have hI : isR xs = if ds.all digB = false then false else if 1000000000000000000 ≤ val ds then false else decide (render true (val ds) = xs) := by
    unfold isR
    rw [if_neg (by omega), ← hds, if_neg (by omega), hn]
  have HI := hide hI
  have hsh : Shows w (some ⟨b, o, none⟩) n xs := .inr ⟨b, o, rfl, hb, hc⟩
  have HSH := hide hsh
  have HX := hide hx
  have hcm' := hcm
  unfold maxLen at hcm'
  generalize isR xs = res at *
  clear hI hsh hc hds hx hn hx0 hdx
  have n0 : ((n : Int) == 0) = false := beq_eq_false_iff_ne.2 (by omega)
  have n19 : ¬ (19 : Int) < n := by omega
  go_enter Trym.func9, Trym.ntmps9
  go_wp2
  go_loopw [5, 6] (fun v i wr => ∃ k u : Nat, k ≤ (n - 1) ∧ i = .int .i64 k ∧ v = .int .u64 u ∧ u < 10000000000000000000 ∧ wr = w ∧ Hid (u = val (ds.take k)) ∧ Hid (∀ j, j < k → digB (ds.getD j 0) = true)) (fun _ i _ => (n - 1) - (intOf i).toNat)
  case atStart => exact ⟨0, 0, Nat.zero_le _, rfl, rfl, by omega, rfl, hide (by simp [val]), hide (fun j hj => by omega)⟩
  case round =>
    obtain ⟨k, u, hk, rfl, rfl, hu, rfl, HU, HJ⟩ := hrel
    by_cases hlt : k < (n - 1)
    · have hu2 : u < 1000000000000000000 := by
        have hm := unhide HM
        have h3 := val_lt _ (ds.take k) rfl (all_take_k ds k (by omega) (unhide HJ))
        rw [← unhide HU, List.length_take, Nat.min_eq_left (by omega)] at h3
        exact Nat.lt_of_lt_of_le h3 (pow_le18 k (n - 1) hlt (by omega))
      obtain ⟨d, hd⟩ : ∃ d, d = ds.getD k 0 := ⟨_, rfl⟩
      have hck : wr.cell? ⟨b, o + 1 + k, none⟩ = some (.int .u8 d) := by rw [hd]; exact unhide HC k hlt
      have Hd := hide hd
      clear hd
      by_cases hg : 48 ≤ d ∧ d ≤ 57
      · obtain ⟨hg1, hg2⟩ := hg
        go_wp2
        go_roundw
        case rel =>
          refine ⟨k + 1, u * 10 + (d - 48).toNat, by omega, by go_num, by go_num, by omega, trivial, hide ?_, hide (fun j hj => ?_)⟩
          · have hm := unhide HM
            rw [val_take ds k (by omega), ← unhide HU, ← unhide Hd]
          · rcases Nat.lt_or_ge j k with h | h
            · exact unhide HJ j h
            · obtain rfl : j = k := by omega
              rw [← unhide Hd]
              exact decide_eq_true ⟨hg1, hg2⟩
        case measure => simp [intOf]; omega
      · have HF : Hid (res = false) := by
          have hm := unhide HM
          exact (unhide HI).trans (if_pos (all_not ds k (by omega) (by rw [← unhide Hd]; exact decide_eq_false hg)))
        have hg' : d < 48 ∨ ¬ d < 48 ∧ 57 < d := by omega
        clear hg
        rcases hg' with hg | ⟨hg1, hg2⟩
        all_goals
          go_wp2
          go_ret
          exact ⟨ret_bool (unhide HF), Below.refl _ _⟩
    · have hm := unhide HM
      have hall : ds.all digB = true := all_take ds k (unhide HJ) (by omega)
      have hv : u = val ds := by rw [unhide HU, List.take_of_length_le (by omega)]
      have HI2 : Hid (res = if 1000000000000000000 ≤ u then false else decide (render true u = xs)) := by
        rw [hv]
        exact (unhide HI).trans (if_neg (by rw [hall]; simp))
      clear hall hv hm HU HJ HI
      by_cases hge : 1000000000000000000 ≤ u
      · have HF := hide ((unhide HI2).trans (if_pos hge))
        have hge' : (1000000000000000000 : Int) ≤ u := by omega
        go_wp2
        go_ret
        exact ⟨ret_bool (unhide HF), Below.refl _ _⟩
      · have HF := hide ((unhide HI2).trans (if_neg hge))
        have hge' : ¬ (1000000000000000000 : Int) ≤ u := by omega
        clear HI2
        go_wp2_with fail
        refine (render_int true (u : Int) wr (by omega) (by omega)).mono ?_
        rintro e w1 ⟨p, c1, rfl, g1, g2, g3, g4⟩
        rw [Int.toNat_natCast] at g1 g3 ⊢
        have HS := hide (same_any p (some ⟨b, o, none⟩) (render true u).length c1 n c (render true u) xs w1 (by unfold maxLen at g2; omega) rfl (unhide HX) g3 ((unhide HSH).below g4))
        clear g3
        go_wp2_with fail
        refine (unhide HS).mono ?_
        rintro e w2 ⟨rfl, q, rfl⟩
        go_wp2
        go_ret
        exact ⟨ret_bool (unhide HF), below_drewN g4 q⟩

/-- isRenderingBelow1e18, whatever slice. -/
theorem isr_any (p : Option Addr) (n c : Nat) (xs : List Int) (w : World) (hx : xs.length = n) (hnc : n ≤ c) (hcm : c ≤ maxLen) (hs : Shows w p n xs) :
    Calls Trym.prog 9 #[.slice p n c] w fun e w' => e = .returned (.bool (isR xs)) ∧ Below w.heap.size w w' := by
  by_cases h : n = 0 ∨ 19 < n
  · refine (isr_short p n c xs w hx h).mono ?_
    rintro e w' ⟨rfl, rfl⟩
    exact ⟨rfl, Below.refl _ _⟩
  · rcases hs with hs | ⟨b, o, rfl, hb, hc⟩
    · omega
    · cases hn : negB xs with
      | false => exact isr_pos b o n c xs w hx (by omega) (by omega) hnc hcm hb hn hc
      | true =>
        by_cases h2 : 2 ≤ n
        · exact isr_neg b o n c xs w hx h2 (by omega) hnc hcm hb hn hc
        · obtain rfl : n = 1 := by omega
          have e := trim_neg hn
          have hl : (trim xs).length = 0 := by
            have := congrArg List.length e
            simp only [List.length_cons] at this
            omega
          rw [List.eq_nil_of_length_eq_zero hl] at e
          subst e
          refine (isr_minus b o c w hnc (by simpa using hc 0 (by omega))).mono ?_
          rintro e w' ⟨rfl, rfl⟩
          exact ⟨rfl, Below.refl _ _⟩

end Go.Proofs.Qxb6601444aMods
