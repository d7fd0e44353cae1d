import Derived.Test.Qxb6601444aModsApp
import Derived.Test.Qxb6601444aModsEsc
namespace Go.Proofs.Qxb6601444aMods
open Go.RowKit

theorem ret_int {k : IntKind} {a b : Int} (h : a = b) : Ending.returned (.int k a) = .returned (.int k b) := by rw [h]

set_option maxHeartbeats 1000000 in
theorem hex_val (d : Int) (h0 : 0 ≤ d) (h1 : d < 16) (w : World) :
    Calls Trym.prog 17 #[.int .u8 (hexd d)] w fun e w' => e = .returned (.int .i64 d) ∧ w' = w := by
  by_cases h : d < 10
  · have e : hexd d = 48 + d := if_pos h
    rw [e]
    clear e
    go_enter Trym.func17, Trym.ntmps17
    go_wp2
    go_ret
    exact ⟨ret_int (by omega), rfl⟩
  · have e : hexd d = 87 + d := if_neg h
    rw [e]
    clear e
    go_enter Trym.func17, Trym.ntmps17
    go_wp2
    go_ret
    exact ⟨ret_int (by omega), rfl⟩

set_option maxHeartbeats 1000000 in
theorem code_point (B : Nat) (v : Value) (n : Nat) (xs : List Int) (c : Int) (h0 : 0 ≤ c) (h1 : c < 128) (w : World) (hB : B ≤ w.heap.size) (hn : n ≤ 100000000) (hown : w.ownsRow B 5 1 v n (by8 xs)) :
    Calls Trym.prog 18 #[v, .int .i64 c] w fun e w' => ∃ v', e = .returned (.tuple #[v', .bool true]) ∧ w'.ownsRow B 5 1 v' (n + 1) (by8 (xs ++ [c])) ∧ Below B w w' := by
  have HO := hide hown
  clear hown
  go_enter Trym.func18, Trym.ntmps18
  go_wp2_with (at_builtin; refine wpList_app _ rfl (.tmp 8) (.tmp 11) rfl B _ _ xs rfl ((unhide HO).alloc _) (some ⟨w.heap.size, 0, none⟩) 1 1 [c] rfl rfl (shows_lit w [c] 5) (fun h => by cases h) (by omega) (by simp; omega) ?_)
  intro v2 w2 hown2 hgrow2
  have hbel2 := bel_app ((Below.refl B w).alloc hB _) ((unhide HO).alloc _) hgrow2 (by simp; omega)
  have HO2 := hide hown2
  clear hown2 hgrow2
  go_wp2
  go_ret2
  exact ⟨v2, rfl, unhide HO2, hbel2⟩

end Go.Proofs.Qxb6601444aMods
