import Derived.Test.Qxb6600042aModsLawD
import Derived.Laws.IdiomCopy
namespace Go.Proofs.Qxb6600042aMods
open Go.RowKit

set_option maxHeartbeats 1000000 in
theorem law_big (p : Option Addr) (n c : Nat) (w : World) (h0 : 131072 < n) (hnm : n ≤ 9223372036854775807) :
    Calls Trym.prog 5 #[.slice p n c] w fun e w' => e = .returned (.bool true) ∧ Below w.heap.size w w' := by
  have Hz := hide (zz13 p n c w hnm)
  have t1 : (131072 : Int) < n := by omega
  by_cases h : n ≤ 1048576
  · rw [decide_eq_true h] at Hz
    go_enter Trym.func5, Trym.ntmps5
    go_wp2_with fail
    refine (unhide Hz).mono ?_
    rintro e w0 ⟨rfl, rfl⟩
    go_wp2
    go_ret
    exact ⟨rfl, Below.refl _ _⟩
  · rw [decide_eq_false h] at Hz
    go_enter Trym.func5, Trym.ntmps5
    go_wp2_with fail
    refine (unhide Hz).mono ?_
    rintro e w0 ⟨rfl, rfl⟩
    go_wp2
    go_ret
    exact ⟨rfl, Below.refl _ _⟩

set_option maxHeartbeats 4000000 in
theorem law_zero_some (ad : Addr) (c : Nat) (w : World) :
    Calls Trym.prog 5 #[.slice (some ad) 0 c] w fun e w' => e = .returned (.bool true) ∧ Below w.heap.size w w' := by
  have q27 := fun (w : World) (a : Option Addr) (n c n' c' : Nat) => run_neq_slice_nil_any (P := Trym.prog) w _ _ a n c n' c' Trym.underlying27
  have Hz := hide (zz13 (some ad) 0 c w (by omega))
  rw [decide_eq_true (by omega)] at Hz
  obtain ⟨i0, hi, hz0, hz1, hz2⟩ := info_parts Trym.info3
  go_enter Trym.func5, Trym.ntmps5
  go_wp2_with fail
  refine (unhide Hz).mono ?_
  rintro e w0 ⟨rfl, rfl⟩
  go_wp2_with (at_make; refine wpList_make_full _ rfl _ _ 27 rfl w0.heap.size 3 i0 (.int .i64 0) 1 Trym.underlying27 hi hz0 hz1 .i64 .i64 _ _ 0 rfl rfl rfl rfl ?c1 ?c2 ?c3 ?_)
  case c1 => omega
  case c2 => unfold maxLen; omega
  case c3 => exact Nat.le_refl _
  intro w1 hown1 hgrow1
  have hbel : Below w0.heap.size w0 w1 := (Below.refl _ _).grown hgrow1 (Nat.le_refl _) (fun k h => by cases h)
  have hcopy := run_copy_none (P := Trym.prog) w1 27 27 3 3 (some ⟨w0.heap.size, 0, none⟩) (some ad) 0 0 0 c Trym.underlying27 (by rw [hi]; simp [hz1]) rfl
  have HZL := hide (zzloop_any (some ⟨w0.heap.size, 0, none⟩) 0 0 [] w1 (fun j hj => by simp at hj) rfl (by omega) (.inl rfl))
  clear hown1 hgrow1 hi hz0 hz1 hz2
  go_wp2_with fail
  go_loopw [5] (fun s wr => s = .int .i64 0 ∧ w1 = wr) (fun _ _ => 0)
  case atStart => exact ⟨rfl, rfl⟩
  case round =>
    obtain ⟨rfl, rfl⟩ := hrel
    clear hcopy
    go_wp2_with fail
    refine (unhide HZL).mono ?_
    rintro e w3 ⟨b3, hcase⟩
    have HRE := hide (reach_any (some ⟨w0.heap.size, 0, none⟩) 0 0 [] w3 (fun j hj => by simp at hj) rfl (by omega) (.inl rfl))
    rcases hcase with ⟨rfl, hall⟩ | ⟨v, l, rfl, q1, q2, q3, q4⟩
    · go_wp2_with fail
      refine (unhide HRE).mono ?_
      rintro e w4 ⟨gR, R, rfl, r1, r2, r3, r4, b4⟩
      have hbelz : Below w0.heap.size w0 w4 := (hbel.trans (b3.mono hbel.size)).trans (b4.mono (Nat.le_trans hbel.size b3.size))
      have q27e := fun (w : World) (a : Option Addr) (n c n' c' : Nat) => Lib.run_eql_slice_nil (P := Trym.prog) w _ _ a n c n' c' Trym.underlying27
      clear r4 r2 r1
      go_wp2
      go_loopw [8, 9] (fun a s wr => s = .int .i64 0 ∧ a = .bool true ∧ w4 = wr) (fun _ _ _ => 0)
      case atStart => exact ⟨rfl, rfl, rfl⟩
      case round =>
        obtain ⟨rfl, rfl, rfl⟩ := hrel
        go_wp2
        go_ret
        exact ⟨rfl, hbelz⟩
    · have := q1.pos
      omega

set_option maxHeartbeats 4000000 in
theorem law_none (c : Nat) (w : World) :
    Calls Trym.prog 5 #[.slice none 0 c] w fun e w' => e = .returned (.bool true) ∧ Below w.heap.size w w' := by
  have q27 := fun (w : World) (a : Option Addr) (n c n' c' : Nat) => run_neq_slice_nil_any (P := Trym.prog) w _ _ a n c n' c' Trym.underlying27
  have Hz := hide (zz13 none 0 c w (by omega))
  rw [decide_eq_true (by omega)] at Hz
  have HZL := hide (zzloop_any none 0 c [] w (fun j hj => by simp at hj) rfl (by omega) (.inl rfl))
  go_enter Trym.func5, Trym.ntmps5
  go_wp2_with fail
  refine (unhide Hz).mono ?_
  rintro e w0 ⟨rfl, rfl⟩
  go_wp2_with fail
  go_loopw [5] (fun s wr => s = .int .i64 0 ∧ w0 = wr) (fun _ _ => 0)
  case atStart => exact ⟨rfl, rfl⟩
  case round =>
    obtain ⟨rfl, rfl⟩ := hrel
    go_wp2_with fail
    refine (unhide HZL).mono ?_
    rintro e w3 ⟨b3, hcase⟩
    have HRE := hide (reach_any none 0 c [] w3 (fun j hj => by simp at hj) rfl (by omega) (.inl rfl))
    rcases hcase with ⟨rfl, hall⟩ | ⟨v, l, rfl, q1, q2, q3, q4⟩
    · go_wp2_with fail
      refine (unhide HRE).mono ?_
      rintro e w4 ⟨gR, R, rfl, r1, r2, r3, r4, b4⟩
      have hbelz : Below w0.heap.size w0 w4 := b3.trans (b4.mono b3.size)
      have q27e := fun (w : World) (a : Option Addr) (n c n' c' : Nat) => Lib.run_eql_slice_nil (P := Trym.prog) w _ _ a n c n' c' Trym.underlying27
      clear r4 r2 r1
      go_wp2
      go_loopw [8, 9] (fun a s wr => s = .int .i64 0 ∧ a = .bool true ∧ w4 = wr) (fun _ _ _ => 0)
      case atStart => exact ⟨rfl, rfl, rfl⟩
      case round =>
        obtain ⟨rfl, rfl, rfl⟩ := hrel
        go_wp2
        go_ret
        exact ⟨rfl, hbelz⟩
    · have := q1.pos
      omega

/-- THE LAW, whatever the slice. -/
theorem law_any (p : Option Addr) (n c : Nat) (P : List Int) (w : World) (hn : P.length = n) (hnm : n ≤ 9223372036854775807) (hs : Shows w p n P) :
    Calls Trym.prog 5 #[.slice p n c] w fun e w' => e = .returned (.bool true) ∧ Below w.heap.size w w' := by
  by_cases hbig : 131072 < n
  · exact law_big p n c w hbig hnm
  rcases Nat.eq_zero_or_pos n with h0 | h0
  · subst h0
    cases p with
    | none => exact law_none c w
    | some ad => exact law_zero_some ad c w
  · rcases hs with hs | ⟨b, o, rfl, hb, hc⟩
    · omega
    · exact law_some b o n c P w hn h0 (by omega) hb hc

end Go.Proofs.Qxb6600042aMods
