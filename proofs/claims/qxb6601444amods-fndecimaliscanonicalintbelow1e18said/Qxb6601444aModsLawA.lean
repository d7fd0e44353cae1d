import Derived.Test.Qxb6601444aModsDec
import Derived.Test.Qxb6601444aModsRender
namespace Go.Proofs.Qxb6601444aMods
open Go.RowKit

theorem digs_ne (mag : Nat) : ∃ x r, digs 20 mag = x :: r ∧ 48 ≤ x ∧ x ≤ 57 := by
  have h := digs_pos 19 mag
  cases hd : digs 20 mag with
  | nil => rw [hd] at h; simp at h
  | cons x r => exact ⟨x, r, rfl, digs_range 20 mag x (by rw [hd]; simp)⟩

theorem trim_digs (mag : Nat) : trim (digs 20 mag) = digs 20 mag := by
  obtain ⟨x, r, h, h1, h2⟩ := digs_ne mag
  rw [h]
  simp only [trim]
  rw [if_neg (by omega)]

theorem trim_render (neg : Bool) (mag : Nat) : trim (render neg mag) = digs 20 mag := by
  by_cases h : neg = true ∧ mag ≠ 0
  · rw [render_yes h]; simp [trim]
  · rw [render_no h]; exact trim_digs mag

theorem digs_all (mag : Nat) : (digs 20 mag).all digB = true := by
  rw [List.all_eq_true]
  intro x hx
  exact decide_eq_true (digs_range 20 mag x hx)

theorem dec_render (neg : Bool) (mag : Nat) (hm : mag < 18446744073709551616) : decB (render neg mag) = decide (mag < 1000000000000000000) := by
  unfold decB
  rw [trim_render, if_neg (by have : 1 ≤ (digs 20 mag).length := digs_pos 19 mag; omega)]
  have hl := digs_lt 20 mag 18 (by omega) (by omega)
  by_cases h18 : 18 < (digs 20 mag).length
  · rw [if_pos h18]
    have : ¬ mag < 10 ^ 18 := by omega
    exact (decide_eq_false this).symm
  · rw [if_neg h18]
    have h2 : mag < 10 ^ 18 := hl.1 (by omega)
    have hd : decide (mag < 1000000000000000000) = true := decide_eq_true h2
    rw [hd, if_neg, digs_all]
    rintro ⟨h3, h4⟩
    by_cases h0 : mag = 0
    · subst h0
      rw [render_no (by simp)] at h4
      revert h4
      decide
    · exact digs_lead 20 mag (by omega) h0 h3

theorem render_bytes (neg : Bool) (mag : Nat) : ∀ x ∈ render neg mag, 0 ≤ x ∧ x < 256 := by
  intro x hx
  by_cases h : neg = true ∧ mag ≠ 0
  · rw [render_yes h, List.mem_cons] at hx
    rcases hx with rfl | hx
    · omega
    · have := digs_range 20 mag x hx; omega
  · rw [render_no h] at hx
    have := digs_range 20 mag x hx; omega

/-- renderInt, its magnitude given as an integer. -/
theorem render_int (neg : Bool) (m : Int) (w : World) (h0 : 0 ≤ m) (hm : m < 18446744073709551616) :
    Calls Trym.prog 10 #[.bool neg, .int .u64 m] w fun e w' => ∃ p c, e = .returned (.slice p (render neg m.toNat).length c) ∧ (render neg m.toNat).length ≤ c ∧ c ≤ maxLen ∧ Shows w' p (render neg m.toNat).length (render neg m.toNat) ∧ Below w.heap.size w w' := by
  obtain ⟨k, rfl⟩ := Int.eq_ofNat_of_zero_le h0
  rw [Int.toNat_natCast]
  refine (render_any neg k w (by omega)).mono ?_
  rintro e w' ⟨v, rfl, h1, h2⟩
  obtain ⟨p, c, rfl, h3, h4, h5, h6, h7⟩ := shows_own h1
  exact ⟨p, c, rfl, h3, h4, h6, h2⟩

theorem dec_render_int (neg : Bool) (m : Int) (h0 : 0 ≤ m) (hm : m < 18446744073709551616) : decB (render neg m.toNat) = decide (m < 1000000000000000000) := by
  rw [dec_render neg m.toNat (by omega)]
  by_cases h : m < 1000000000000000000
  · rw [decide_eq_true h, decide_eq_true (by omega)]
  · rw [decide_eq_false h, decide_eq_false (by omega)]

set_option maxHeartbeats 1000000 in
theorem walkA (a0 : Int) (hlo : -9223372036854775808 ≤ a0) (hhi : a0 ≤ 9223372036854775807) (w : World) :
    Calls Trym.prog 4 #[.int .i64 a0] w fun e w' => e = .returned (.bool true) ∧ Below w.heap.size w w' := by
  by_cases hn : a0 < 0
  · go_enter Trym.func4, Trym.ntmps4
    go_wp2_with fail
    refine (render_int true (-(a0 + 1) + 1) w (by omega) (by omega)).mono ?_
    rintro e w1 ⟨p, c, rfl, h1, h2, h3, h4⟩
    have HZ := hide (zzdec_any p _ c _ w1 rfl h1 h2 (render_bytes _ _) h3)
    rw [dec_render_int true (-(a0 + 1) + 1) (by omega) (by omega)] at HZ
    clear h3
    go_wp2_with fail
    refine (unhide HZ).mono ?_
    rintro e w2 ⟨rfl, h5⟩
    go_wp2
    go_ret
    exact ⟨by simp, h4.trans (h5.mono h4.size)⟩
  · go_enter Trym.func4, Trym.ntmps4
    go_wp2_with fail
    refine (render_int false a0 w (by omega) (by omega)).mono ?_
    rintro e w1 ⟨p, c, rfl, h1, h2, h3, h4⟩
    have HZ := hide (zzdec_any p _ c _ w1 rfl h1 h2 (render_bytes _ _) h3)
    rw [dec_render_int false a0 (by omega) (by omega)] at HZ
    clear h3
    go_wp2_with fail
    refine (unhide HZ).mono ?_
    rintro e w2 ⟨rfl, h5⟩
    go_wp2
    go_ret
    exact ⟨by simp, h4.trans (h5.mono h4.size)⟩

end Go.Proofs.Qxb6601444aMods
