import Derived.Test.Qxb6601444aModsTrim
namespace Go.Proofs.Qxb6601444aMods
open Go.RowKit

/-- A decimal digit. -/
def digB (x : Int) : Bool := decide (48 ≤ x ∧ x ≤ 57)

/-- What 'decimal' answers. -/
def decB (xs : List Int) : Bool :=
  if (trim xs).length = 0 then false else if 18 < (trim xs).length then false
  else if (trim xs).getD 0 0 = 48 ∧ 1 < xs.length then false else (trim xs).all digB

theorem all_take (l : List Int) (k : Nat) (h : ∀ j, j < k → digB (l.getD j 0) = true) (hk : l.length ≤ k) : l.all digB = true := by
  rw [List.all_eq_true]
  intro x hx
  obtain ⟨j, hj, rfl⟩ := List.getElem_of_mem hx
  have := h j (by omega)
  simpa [List.getD, hj] using this

theorem all_not (l : List Int) (k : Nat) (hk : k < l.length) (h : digB (l.getD k 0) = false) : l.all digB = false := by
  rw [Bool.eq_false_iff]
  intro h2
  rw [List.all_eq_true] at h2
  have := h2 l[k] (List.getElem_mem hk)
  simp [List.getD, hk] at h
  rw [h] at this
  cases this

theorem ret_bool {a b : Bool} (h : a = b) : Ending.returned (.bool b) = .returned (.bool a) := by rw [h]

set_option maxHeartbeats 1000000 in
theorem dec_any (p : Option Addr) (n c : Nat) (xs : List Int) (w : World) (hx : xs.length = n) (hnc : n ≤ c) (hcm : c ≤ maxLen) (hby : ∀ x ∈ xs, 0 ≤ x ∧ x < 256)
    (hs : Shows w p n xs) :
    Calls Trym.prog 15 #[.slice p n c] w fun e w' => e = .returned (.bool (decB xs)) ∧ Below w.heap.size w w' := by
  have kc := fun (w : World) (C : Array Value) (n c : Nat) => Lib.run_convert_bytes_const (P := Trym.prog) w 22 5 C n c Trym.underlying22 Trym.underlying5
  have hb1 : Below w.heap.size w (w.alloc (.cells #[.int .u8 45] 5 (1, 2))) := (Below.refl _ _).alloc (Nat.le_refl _) _
  have HT := hide (trim_any p n c w.heap.size 0 1 xs (w.alloc (.cells #[.int .u8 45] 5 (1, 2))) hx hnc hcm hby (hs.below hb1) (by simp [World.cell?_alloc_mark]))
  have HD : Hid (decB xs = if (trim xs).length = 0 then false else if 18 < (trim xs).length then false
    else if (trim xs).getD 0 0 = 48 ∧ 1 < xs.length then false else (trim xs).all digB) := rfl
  generalize decB xs = res at *
  generalize hds : trim xs = ds at *
  clear hds
  go_enter Trym.func15, Trym.ntmps15
  go_wp2_with fail
  refine (unhide HT).mono ?_
  rintro e w' ⟨⟨p', c', rfl, h1, h2, h3⟩, rfl⟩
  clear HT kc hs hby hcm
  generalize hW : w.alloc (.cells #[.int .u8 45] 5 (1, 2)) = W at *
  clear hW
  have hc'm := h2
  unfold maxLen at hc'm
  by_cases z1 : ds.length = 0
  · have HF := hide ((unhide HD).trans (if_pos z1))
    clear HD h3
    rw [z1]
    go_wp2
    go_ret
    exact ⟨ret_bool (unhide HF), hb1⟩
  · have HD2 := hide ((unhide HD).trans (if_neg z1))
    clear HD
    have z1' : ((ds.length : Int) == 0) = false := beq_eq_false_iff_ne.2 (by omega)
    by_cases z2 : 18 < ds.length
    · have HF := hide ((unhide HD2).trans (if_pos z2))
      clear HD2 h3
      have z2' : (18 : Int) < ds.length := by omega
      go_wp2
      go_ret
      exact ⟨ret_bool (unhide HF), hb1⟩
    · have HD3 := hide ((unhide HD2).trans (if_neg z2))
      clear HD2
      have z2' : ¬ (18 : Int) < ds.length := by omega
      rcases h3 with h3 | ⟨b, o, rfl, hb, hc⟩
      · omega
      · obtain ⟨d0, hd0⟩ : ∃ d0, d0 = ds.getD 0 0 := ⟨_, rfl⟩
        have hc0 : W.cell? ⟨b, o, none⟩ = some (.int .u8 d0) := by rw [hd0]; simpa using hc 0 (by omega)
        have Hc := hide hc
        rw [← hd0] at HD3
        clear hc hd0
        by_cases z34 : d0 = 48 ∧ 1 < xs.length
        · have HF := hide ((unhide HD3).trans (if_pos z34))
          obtain ⟨rfl, z4⟩ := z34
          clear HD3
          have z5 : (1 : Int) < n := by omega
          go_wp2
          go_ret
          exact ⟨ret_bool (unhide HF), hb1⟩
        · have HF := hide ((unhide HD3).trans (if_neg z34))
          clear HD3
          have z : (d0 = 48 ∧ ¬ (1 : Int) < n) ∨ (d0 == 48) = false := by
            by_cases z : d0 = 48
            · exact .inl ⟨z, by omega⟩
            · exact .inr (beq_eq_false_iff_ne.2 z)
          clear z34
          rcases z with ⟨rfl, z5⟩ | z3'
          all_goals
            go_wp2
            go_loop [31] (fun i => ∃ k : Nat, k ≤ ds.length ∧ i = .int .i64 k ∧ Hid (∀ j, j < k → digB (ds.getD j 0) = true)) (fun i => ds.length - (intOf i).toNat)
            case atStart => exact ⟨0, Nat.zero_le _, rfl, hide (fun j hj => by omega)⟩
            case round =>
              obtain ⟨k, hk, rfl, HJ⟩ := hrel
              by_cases hlt : k < ds.length
              · obtain ⟨dk, hdk⟩ : ∃ dk, dk = ds.getD k 0 := ⟨_, rfl⟩
                have hck : W.cell? ⟨b, o + k, none⟩ = some (.int .u8 dk) := by rw [hdk]; exact unhide Hc k hlt
                have Hdk := hide hdk
                clear hdk
                by_cases hg : 48 ≤ dk ∧ dk ≤ 57
                · obtain ⟨hg1, hg2⟩ := hg
                  go_wp2
                  go_round
                  case rel =>
                    refine ⟨k + 1, by omega, by go_num, hide (fun j hj => ?_)⟩
                    rcases Nat.lt_or_ge j k with h | h
                    · exact unhide HJ j h
                    · obtain rfl : j = k := by omega
                      rw [← unhide Hdk]
                      exact decide_eq_true ⟨hg1, hg2⟩
                  case measure => simp [intOf]; omega
                · have HF2 := hide ((unhide HF).trans (all_not ds k hlt (by rw [← unhide Hdk]; exact decide_eq_false hg)))
                  have hg' : dk < 48 ∨ ¬ dk < 48 ∧ 57 < dk := by omega
                  clear hg
                  rcases hg' with hg | ⟨hg1, hg2⟩
                  all_goals
                    go_wp2
                    go_ret
                    exact ⟨ret_bool (unhide HF2), hb1⟩
              · have HF2 := hide ((unhide HF).trans (all_take ds k (unhide HJ) (by omega)))
                go_wp2
                go_ret
                exact ⟨ret_bool (unhide HF2), hb1⟩

/-- ZZdecimal. -/
theorem zzdec_any (p : Option Addr) (n c : Nat) (xs : List Int) (w : World) (hx : xs.length = n) (hnc : n ≤ c) (hcm : c ≤ maxLen) (hby : ∀ x ∈ xs, 0 ≤ x ∧ x < 256)
    (hs : Shows w p n xs) :
    Calls Trym.prog 8 #[.slice p n c] w fun e w' => e = .returned (.bool (decB xs)) ∧ Below w.heap.size w w' := by
  have HT := hide (dec_any p n c xs w hx hnc hcm hby hs)
  clear hs hby hx
  go_enter Trym.func8, Trym.ntmps8
  go_wp2_with fail
  refine (unhide HT).mono ?_
  rintro e w' ⟨rfl, hb⟩
  go_wp2
  go_ret
  exact ⟨rfl, hb⟩

end Go.Proofs.Qxb6601444aMods
