import Derived.Test.Qxb6601975aModsChecked
import Derived.WalkKit
import Derived.WalkSpells
import Derived.WalkLawsBesides
namespace Go.Proofs.Qxb6601975aMods
open Go.RowKit

theorem Trym.info5 : (Trym.prog.info? 5).map (fun i => (i.zero, i.size, i.bytes)) = some (some (.int .u8 0), 1, 1) := by kernel_rfl

theorem hide {p : Prop} (h : p) : Hid p := h
theorem unhide {p : Prop} (h : Hid p) : p := h

/-- The bytes of a row that the clone has filled up to k. -/
def part (xs : List Int) (k : Nat) : List Value := (List.range xs.length).map fun j => .int .u8 (if j < k then xs.getD j 0 else 0)

theorem part_zero (xs : List Int) : part xs 0 = List.replicate xs.length (.int .u8 0) := by
  apply List.ext_getElem
  · simp [part]
  · intro j h1 h2
    simp [part]
theorem part_full (xs : List Int) : part xs xs.length = xs.map (Value.int .u8) := by
  apply List.ext_getElem
  · simp [part]
  · intro j h1 h2
    have h3 : j < xs.length := by simpa [part] using h1
    simp [part, h3, List.getD]
theorem part_set (xs : List Int) (k : Nat) : (part xs k).set k (.int .u8 (xs.getD k 0)) = part xs (k + 1) := by
  apply List.ext_getElem
  · simp [part]
  · intro j h1 h2
    rw [List.getElem_set]
    simp only [part, List.getElem_map, List.getElem_range]
    by_cases h : k = j
    · subst h
      rw [if_pos rfl, if_pos (by omega)]
    · rw [if_neg h]
      by_cases h3 : j < k
      · rw [if_pos h3, if_pos (by omega)]
      · rw [if_neg h3, if_neg (by omega)]

theorem part_at (xs : List Int) (k j : Nat) (h : j < xs.length) : (part xs k)[j]? = some (.int .u8 (if j < k then xs.getD j 0 else 0)) := by
  simp [part, h]

set_option maxHeartbeats 400000 in
theorem clone_nil (w : World) : Calls Trym.prog 7 #[.slice none 0 0] w fun e w' => e = .returned (.slice none 0 0) ∧ w' = w := by
  have q22 := fun (w : World) (a : Option Addr) (n c n' c' : Nat) => Lib.run_eql_slice_nil (P := Trym.prog) w _ _ a n c n' c' Trym.underlying22
  go_enter Trym.func7, Trym.ntmps7
  go_wp2
  go_ret
  exact ⟨rfl, rfl⟩

set_option maxHeartbeats 400000 in
theorem clone_zero (a : Addr) (c : Nat) (w : World) :
    Calls Trym.prog 7 #[.slice (some a) 0 c] w fun e w' => e = .returned (.slice (some ⟨w.heap.size, 0, none⟩) 0 0) ∧ w'.ownsRow w.heap.size 5 1 (.slice (some ⟨w.heap.size, 0, none⟩) 0 0) 0 [] ∧ Below w.heap.size w w' := by
  have q22 := fun (w : World) (a : Option Addr) (n c n' c' : Nat) => Lib.run_eql_slice_nil (P := Trym.prog) w _ _ a n c n' c' Trym.underlying22
  obtain ⟨i0, hi, hz0, hz1, hz2⟩ := info_parts Trym.info5
  go_enter Trym.func7, Trym.ntmps7
  go_wp2_with (at_make; refine wpList_make_full _ rfl _ _ 22 rfl w.heap.size 5 i0 (.int .u8 0) 1 Trym.underlying22 hi hz0 hz1 .i64 .i64 _ _ 0 rfl rfl rfl rfl ?c1 ?c2 ?c3 ?_)
  case c1 => simp
  case c2 => unfold maxLen; omega
  case c3 => exact Nat.le_refl _
  intro w1 hown hgrow
  have hmc : (madeCells #[Value.int .u8 0] 0).toList = [] := toList_madeCells_one _ 0
  rw [hmc] at hown
  have hbel : Below w.heap.size w w1 := (Below.refl _ _).grown hgrow (Nat.le_refl _) (fun k h => by cases h)
  clear hmc hgrow
  go_wp2
  refine wp_loop_rounds 1 ?_
  rw [rounds_succ]
  go_wp2
  go_ret
  exact ⟨rfl, hown, hbel⟩

set_option maxHeartbeats 400000 in
theorem clone_some (b o n c : Nat) (xs : List Int) (w : World) (hx : xs.length = n) (hn : n ≤ 140737488355328) (hb : b < w.heap.size)
    (hc : ∀ i, i < n → w.cell? ⟨b, o + i, none⟩ = some (.int .u8 (xs.getD i 0))) :
    Calls Trym.prog 7 #[.slice (some ⟨b, o, none⟩) n c] w fun e w' => e = .returned (.slice (some ⟨w.heap.size, 0, none⟩) n n) ∧ w'.ownsRow w.heap.size 5 1 (.slice (some ⟨w.heap.size, 0, none⟩) n n) n (xs.map (Value.int .u8)) ∧ Below w.heap.size w w' := by
  have q22 := fun (w : World) (a : Option Addr) (n c n' c' : Nat) => Lib.run_eql_slice_nil (P := Trym.prog) w _ _ a n c n' c' Trym.underlying22
  obtain ⟨i0, hi, hz0, hz1, hz2⟩ := info_parts Trym.info5
  go_enter Trym.func7, Trym.ntmps7
  go_wp2_with (at_make; refine wpList_make_full _ rfl _ _ 22 rfl w.heap.size 5 i0 (.int .u8 0) 1 Trym.underlying22 hi hz0 hz1 .i64 .i64 _ _ n rfl rfl rfl rfl ?c1 ?c2 ?c3 ?_)
  case c1 => rw [hz2]; omega
  case c2 => unfold maxLen; omega
  case c3 => exact Nat.le_refl _
  intro w1 hown hgrow
  have hmc : (madeCells #[Value.int .u8 0] n).toList = part xs 0 := by rw [part_zero, hx]; exact toList_madeCells_one _ _
  rw [hmc] at hown
  have hsz : w.heap.size ≤ w1.heap.size := hgrow.size
  have hbel : Below w.heap.size w w1 := (Below.refl _ _).grown hgrow (Nat.le_refl _) (fun k h => by cases h)
  clear hmc hgrow
  go_wp2
  go_loopw [4] (fun i wr => ∃ k : Nat, k ≤ n ∧ i = .int .i64 k ∧ wr.ownsRow w.heap.size 5 1 (.slice (some ⟨w.heap.size, 0, none⟩) n n) n (part xs k) ∧ Below w.heap.size w wr) (fun i _ => n - (intOf i).toNat)
  case atStart => exact ⟨0, Nat.zero_le _, rfl, hown, hbel⟩
  case round =>
    obtain ⟨k, hk, rfl, hown', hbel'⟩ := hrel
    clear hown hbel
    by_cases hlt : k < n
    · have hcell : wr.cell? ⟨b, o + k, none⟩ = some (.int .u8 (xs.getD k 0)) := (hbel'.cell (by exact hb)).trans (hc k hlt)
      have hcg : wr.cell? ⟨w.heap.size, k, none⟩ = some (.int .u8 0) := by
        rw [hown'.cellAt k (by omega), part_at _ _ _ (by omega)]; simp
      have hfg : wr.frozen? ⟨w.heap.size, k, none⟩ = false := hown'.frozenAt k
      have hst := hown'.stored k (.int .u8 (xs.getD k 0))
      rw [part_set] at hst
      have HS := hide hst
      have HO := hide hown'
      have hk' : k < xs.length := by omega
      clear hst hown'
      go_wp2
      go_roundw
      case rel => exact ⟨k + 1, by omega, by go_num, by simpa [hk'] using (unhide HS).1, hbel'.setCell (Nat.le_refl _) _⟩
      case measure => simp [intOf]; omega
    · have hkn : k = n := by omega
      subst hkn
      go_wp2
      go_ret
      exact ⟨rfl, by rw [← part_full, hx]; exact hown', hbel'⟩

/-- The slice (p, n, ..) shows the bytes xs in the world w. -/
def Shows (w : World) (p : Option Addr) (n : Nat) (xs : List Int) : Prop :=
  n = 0 ∨ ∃ b o, p = some ⟨b, o, none⟩ ∧ b < w.heap.size ∧ ∀ i, i < n → w.cell? ⟨b, o + i, none⟩ = some (.int .u8 (xs.getD i 0))

theorem Shows.below {w w' : World} {p : Option Addr} {n : Nat} {xs : List Int} (h : Shows w p n xs) (hb : Below w.heap.size w w') : Shows w' p n xs := by
  rcases h with h | ⟨b, o, h1, h2, h3⟩
  · exact .inl h
  · exact .inr ⟨b, o, h1, Nat.lt_of_lt_of_le h2 hb.size, fun i hi => (hb.cell (by exact h2)).trans (h3 i hi)⟩

/-- A row of the call's own shows its bytes. -/
theorem shows_own {w : World} {base : Nat} {v : Value} {n : Nat} {xs : List Int} (h : w.ownsRow base 5 1 v n (xs.map (Value.int .u8))) :
    ∃ p c, v = .slice p n c ∧ n ≤ c ∧ c ≤ maxLen ∧ xs.length = n ∧ Shows w p n xs ∧ (p = none → n = 0 ∧ c = 0) := by
  have hl : xs.length = n := by simpa using h.1
  have h0 := h
  rcases h.2 with ⟨h1, h2⟩ | ⟨g, cap, cur, h1, h2, h3, h4, h5, h6, h7⟩
  · subst h2
    exact ⟨none, 0, h1, Nat.le_refl _, by unfold maxLen; omega, hl, .inl rfl, fun _ => ⟨rfl, rfl⟩⟩
  · subst h1
    refine ⟨_, cap, rfl, h4, h5, hl, .inr ⟨g, 0, rfl, ?_, fun i hi => ?_⟩, fun h => by cases h⟩
    · rcases Nat.lt_or_ge g w.heap.size with h' | h'
      · exact h'
      · rw [Array.getElem?_eq_none h'] at h3; cases h3
    · rw [Nat.zero_add, h0.cellAt i (by omega)]
      simp [show i < xs.length by omega]

/-- cloneBytes, whatever slice: what comes back is the call's own row of the same bytes. -/
theorem clone_any (p : Option Addr) (n c : Nat) (xs : List Int) (w : World) (hx : xs.length = n) (hn : n ≤ 140737488355328) (hp : p = none → n = 0 ∧ c = 0) (hs : Shows w p n xs) :
    Calls Trym.prog 7 #[.slice p n c] w fun e w' => ∃ v, e = .returned v ∧ w'.ownsRow w.heap.size 5 1 v n (xs.map (Value.int .u8)) ∧ Below w.heap.size w w' := by
  cases p with
  | none =>
    obtain ⟨rfl, rfl⟩ := hp rfl
    refine (clone_nil w).mono ?_
    rintro e w' ⟨rfl, rfl⟩
    have : xs = [] := List.eq_nil_of_length_eq_zero hx
    subst this
    exact ⟨_, rfl, World.ownsRow_nil _ _ _ _, Below.refl _ _⟩
  | some a =>
    rcases hs with rfl | ⟨b, o, h1, h2, h3⟩
    · refine (clone_zero a c w).mono ?_
      rintro e w' ⟨rfl, h4, h5⟩
      have : xs = [] := List.eq_nil_of_length_eq_zero hx
      subst this
      exact ⟨_, rfl, h4, h5⟩
    · cases h1
      refine (clone_some b o n c xs w hx hn h2 h3).mono ?_
      rintro e w' ⟨rfl, h4, h5⟩
      exact ⟨_, rfl, h4, h5⟩

end Go.Proofs.Qxb6601975aMods
