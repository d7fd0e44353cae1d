import Derived.Test.Qxb6601444aModsClone
import Derived.Lib.Bytes
import Derived.Lib.SlBytesConst
import Derived.Deep.Light
namespace Go.Proofs.Qxb6601444aMods
open Go.RowKit

set_option maxHeartbeats 1000000 in
theorem equal_any (v1 v2 : Value) (xs ys : List Int) (w : World)
    (h1 : (convert 22 9 v1).run Trym.prog w = .ok (.string (strOfNums xs)) w) (h2 : (convert 22 9 v2).run Trym.prog w = .ok (.string (strOfNums ys)) w) :
    Calls Trym.prog 21 #[v1, v2] w fun e w' => e = .returned (.bool (Lib.bytesOf xs == Lib.bytesOf ys)) ∧ w' = w := by
  rw [← Lib.strOfNums_toList, ← Lib.strOfNums_toList]
  go_enter Trym.func21, Trym.ntmps21
  go_wp2
  go_ret
  exact ⟨rfl, rfl⟩

theorem one_byte (x : Int) (h0 : 0 ≤ x) (h1 : x < 256) : (Lib.bytesOf [x] == Lib.bytesOf [45]) = decide (x = 45) := by
  rw [Bool.eq_iff_iff]
  simp only [Lib.bytesOf, List.map_cons, List.map_nil, beq_iff_eq, List.cons.injEq, and_true, decide_eq_true_eq]
  constructor
  · intro h
    have := congrArg UInt8.toNat h
    simp at this
    omega
  · rintro rfl
    rfl

set_option maxHeartbeats 1000000 in
theorem hasprefix_some (b1 o1 n c b2 o2 d : Nat) (x : Int) (xs : List Int) (w : World) (hx : (x :: xs).length = n) (hnc : n ≤ c) (h0 : 0 ≤ x) (h1 : x < 256)
    (hc1 : ∀ i, i < n → w.cell? ⟨b1, o1 + i, none⟩ = some (.int .u8 ((x :: xs).getD i 0))) (hc2 : w.cell? ⟨b2, o2, none⟩ = some (.int .u8 45)) :
    Calls Trym.prog 20 #[.slice (some ⟨b1, o1, none⟩) n c, .slice (some ⟨b2, o2, none⟩) 1 d] w fun e w' => e = .returned (.bool (decide (x = 45))) ∧ w' = w := by
  have g2 := run_convert_bytes_arg (P := Trym.prog) w 22 5 Trym.underlying22 Trym.underlying5 b2 o2 1 d [45] rfl (fun i hi => by obtain rfl : i = 0 := by omega
                                                                                                                                 exact hc2) 9 Trym.underlying9
  have g1 : (convert 22 9 (.slice (some ⟨b1, o1, none⟩) 1 c)).run Trym.prog w = .ok (.string (strOfNums [x])) w :=
    run_convert_bytes_arg (P := Trym.prog) w 22 5 Trym.underlying22 Trym.underlying5 b1 o1 1 c [x] rfl (fun i hi => by obtain rfl : i = 0 := by omega
                                                                                                                       exact hc1 0 (by simp at hx; omega)) 9 Trym.underlying9
  have hn : 1 ≤ n := by simp at hx; omega
  rw [← one_byte x h0 h1]
  clear hc1 hc2
  go_enter Trym.func20, Trym.ntmps20
  go_wp2_with (go_at_call 21; refine (equal_any _ _ [x] [45] _ g1 g2).mono ?_; rintro e w' ⟨rfl, rfl⟩)
  go_ret
  exact ⟨rfl, rfl⟩

set_option maxHeartbeats 1000000 in
theorem hasprefix_zero (p : Option Addr) (c b2 o2 d : Nat) (w : World) :
    Calls Trym.prog 20 #[.slice p 0 c, .slice (some ⟨b2, o2, none⟩) 1 d] w fun e w' => e = .returned (.bool false) ∧ w' = w := by
  go_enter Trym.func20, Trym.ntmps20
  go_wp2_with fail
  go_ret
  exact ⟨rfl, rfl⟩

theorem ret_slice {p : Option Addr} {n n' c : Nat} (h : n = n') : Ending.returned (.slice p n c) = .returned (.slice p n' c) := by rw [h]

/-- The text without one leading minus sign. -/
def trim (xs : List Int) : List Int := match xs with
  | [] => []
  | x :: r => if x = 45 then r else x :: r

set_option maxHeartbeats 1000000 in
theorem trim_zero (p : Option Addr) (c b2 o2 d : Nat) (w : World) :
    Calls Trym.prog 19 #[.slice p 0 c, .slice (some ⟨b2, o2, none⟩) 1 d] w fun e w' => e = .returned (.slice p 0 c) ∧ w' = w := by
  go_enter Trym.func19, Trym.ntmps19
  go_wp2_with (go_at_call 20; refine (hasprefix_zero p c b2 o2 d _).mono ?_; rintro e w' ⟨rfl, rfl⟩)
  go_ret
  exact ⟨rfl, rfl⟩

set_option maxHeartbeats 1000000 in
theorem trim_some (b1 o1 n c b2 o2 d : Nat) (x : Int) (xs : List Int) (w : World) (hx : (x :: xs).length = n) (hnc : n ≤ c) (hcm : c ≤ maxLen) (h0 : 0 ≤ x) (h1 : x < 256) (hb : b1 < w.heap.size)
    (hc1 : ∀ i, i < n → w.cell? ⟨b1, o1 + i, none⟩ = some (.int .u8 ((x :: xs).getD i 0))) (hc2 : w.cell? ⟨b2, o2, none⟩ = some (.int .u8 45)) :
    Calls Trym.prog 19 #[.slice (some ⟨b1, o1, none⟩) n c, .slice (some ⟨b2, o2, none⟩) 1 d] w fun e w' => (∃ p c', e = .returned (.slice p (trim (x :: xs)).length c') ∧ (trim (x :: xs)).length ≤ c' ∧ c' ≤ maxLen ∧ Shows w p (trim (x :: xs)).length (trim (x :: xs))) ∧ w' = w := by
  have hn : n = xs.length + 1 := by simpa using hx.symm
  by_cases hm : x = 45
  · have ht : trim (x :: xs) = xs := by simp [trim, hm]
    rw [ht]
    have hd : decide (x = 45) = true := by simp [hm]
    have H := hasprefix_some b1 o1 n c b2 o2 d x xs w hx hnc h0 h1 hc1 hc2
    rw [hd] at H
    have HH := hide H
    have Hc := hide hc1
    have Hn := hide hn
    have hn1 : 1 ≤ n := by omega
    have hcm' := hcm
    unfold maxLen at hcm'
    clear H hc1 hc2 hd ht hm hn hx h0 h1
    go_enter Trym.func19, Trym.ntmps19
    go_wp2_with (go_at_call 20; refine ((unhide HH)).mono ?_; rintro e w' ⟨rfl, rfl⟩)
    all_goals go_ret
    all_goals go_light
    · have e := unhide Hn
      exact ⟨⟨_, _, ret_slice (show n - 1 = xs.length by omega), by omega, by unfold maxLen; omega, .inl (by omega)⟩, rfl⟩
    · have e := unhide Hn
      refine ⟨⟨_, _, ret_slice (show n - 1 = xs.length by omega), by omega, by unfold maxLen; omega, .inr ⟨b1, o1 + 1, rfl, hb, fun i hi => ?_⟩⟩, rfl⟩
      have := unhide Hc (i + 1) (by omega)
      rw [show o1 + 1 + i = o1 + (i + 1) by omega, this]
      simp
  · have ht : trim (x :: xs) = x :: xs := by simp [trim, hm]
    rw [ht]
    have hd : decide (x = 45) = false := by simp [hm]
    have H := hasprefix_some b1 o1 n c b2 o2 d x xs w hx hnc h0 h1 hc1 hc2
    rw [hd] at H
    have HH := hide H
    have Hc := hide hc1
    have Hx := hide hx
    clear H hc1 hc2 hd ht hm hn hx h0 h1
    go_enter Trym.func19, Trym.ntmps19
    go_wp2_with (go_at_call 20; refine ((unhide HH)).mono ?_; rintro e w' ⟨rfl, rfl⟩)
    go_ret
    go_light
    have e := unhide Hx
    have e3 : xs.length + 1 = n := e
    exact ⟨⟨_, _, ret_slice e.symm, by omega, hcm, .inr ⟨b1, o1, rfl, hb, fun i hi => unhide Hc i (by omega)⟩⟩, rfl⟩

/-- bytes.TrimPrefix(s, "-"), whatever slice s. -/
theorem trim_any (p : Option Addr) (n c b2 o2 d : Nat) (xs : List Int) (w : World) (hx : xs.length = n) (hnc : n ≤ c) (hcm : c ≤ maxLen) (hby : ∀ x ∈ xs, 0 ≤ x ∧ x < 256)
    (hs : Shows w p n xs) (hc2 : w.cell? ⟨b2, o2, none⟩ = some (.int .u8 45)) :
    Calls Trym.prog 19 #[.slice p n c, .slice (some ⟨b2, o2, none⟩) 1 d] w fun e w' => (∃ p c', e = .returned (.slice p (trim xs).length c') ∧ (trim xs).length ≤ c' ∧ c' ≤ maxLen ∧ Shows w p (trim xs).length (trim xs)) ∧ w' = w := by
  cases xs with
  | nil =>
    simp at hx
    subst hx
    refine (trim_zero p c b2 o2 d w).mono ?_
    rintro e w' ⟨rfl, rfl⟩
    exact ⟨⟨p, c, rfl, Nat.zero_le _, hcm, .inl rfl⟩, rfl⟩
  | cons x r =>
    rcases hs with h | ⟨b, o, rfl, h2, h3⟩
    · subst h; simp at hx
    · exact trim_some b o n c b2 o2 d x r w hx hnc hcm (hby x (by simp)).1 (hby x (by simp)).2 h2 h3 hc2

end Go.Proofs.Qxb6601444aMods
