import Derived.Test.Qxb6600042aModsLoop
namespace Go.Proofs.Qxb6600042aMods
open Go.RowKit

set_option maxHeartbeats 1000000 in
theorem zzloop_any (p : Option Addr) (n c : Nat) (P : List Int) (w : World) (hP : OkP P) (hn : P.length = n) (hnm : n ≤ 1048576) (hs : Shows w p n P) :
    Calls Trym.prog 14 #[.slice p n c] w fun e w' => Below w.heap.size w w' ∧
      ((e = .returned (.slice none 0 0) ∧ ∀ j : Nat, j < n → Reach P (j : Int)) ∨ ∃ v l, e = .returned v ∧ IsLoop P l ∧ l.length ≤ n ∧ v ≠ .slice none 0 0 ∧ w'.ownsRow w.heap.size 3 1 v l.length (ints l)) := by
  have hb1 : Below w.heap.size w (w.alloc (.cells #[.slice p n c, .slice none 0 0] 44)) := (Below.refl _ _).alloc (Nat.le_refl _) _
  have hb2 : IsBlk (w.alloc (.cells #[.slice p n c, .slice none 0 0] 44)) w.heap.size 44 [.slice p n c, .slice none 0 0] := heap_new w _
  have hcell := hb2.cell 0
  have hHT : Hid (Calls Trym.prog 19 #[.pointer (some ⟨w.heap.size, 0, none⟩)] (w.alloc (.cells #[.slice p n c, .slice none 0 0] 44)) fun e w' => Below (w.alloc (.cells #[.slice p n c, .slice none 0 0] 44)).heap.size (w.alloc (.cells #[.slice p n c, .slice none 0 0] 44)) w' ∧
      ((e = .returned (.slice none 0 0) ∧ ∀ j : Nat, j < n → Reach P (j : Int)) ∨ ∃ v l, e = .returned v ∧ IsLoop P l ∧ l.length ≤ n ∧ v ≠ .slice none 0 0 ∧ w'.ownsRow (w.alloc (.cells #[.slice p n c, .slice none 0 0] 44)).heap.size 3 1 v l.length (ints l))) := by
    rcases hs with h0 | ⟨b, o, rfl, hb, hc⟩
    · subst h0
      refine (loop_zero w.heap.size p c _ (by simp) hcell).mono ?_
      rintro e w' ⟨rfl, h2⟩
      exact ⟨h2, .inl ⟨rfl, fun j hj => by omega⟩⟩
    · by_cases h0 : 1 ≤ n
      · exact loop_some w.heap.size b o n c P _ hP hn h0 hnm (by simp) (by simp; omega) hcell (fun i hi => (hb1.cell (by exact hb)).trans (hc i hi))
      · obtain rfl : n = 0 := by omega
        refine (loop_zero w.heap.size _ c _ (by simp) hcell).mono ?_
        rintro e w' ⟨rfl, h2⟩
        exact ⟨h2, .inl ⟨rfl, fun j hj => by omega⟩⟩
  clear hs hb2 hcell hP hn
  go_enter Trym.func14, Trym.ntmps14
  go_wp2_with fail
  refine (unhide hHT).mono ?_
  rintro e w2 ⟨b2, hcase⟩
  rcases hcase with ⟨rfl, h2⟩ | ⟨v, l, rfl, q1, q2, q3, q4⟩
  · have H2 := hide h2
    clear h2
    go_wp2
    go_ret
    exact ⟨hb1.trans (b2.mono (by simp)), .inl ⟨rfl, unhide H2⟩⟩
  · have Q1 := hide q1
    have Q3 := hide q3
    have Q4 := hide q4
    clear q1 q3 q4
    go_wp2
    go_ret
    exact ⟨hb1.trans (b2.mono (by simp)), .inr ⟨v, l, rfl, unhide Q1, q2, unhide Q3, ownsRow_base (unhide Q4) (by simp)⟩⟩

end Go.Proofs.Qxb6600042aMods
