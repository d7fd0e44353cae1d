/-
  THE PROOF OF Rows.FnSwitchLevelsIgnoreLineOrderSaid: the guide's frame, turned to a slice of strings and a slice of slices of strings.
-/
import Derived.Test.Qxb6600042aModsRows
import Derived.WalkKit
import Derived.ProofKit
import Derived.OpenShut
import Derived.ShutString
import Derived.ChangeOld
import Derived.Below
import Derived.Deep.Strs
import Derived.Test.Qxb6600042aModsLawF
namespace Go.Proofs.Qxb6600042aMods.fnSwitchLevelsIgnoreLineOrder
open Go.ChangeShapes Go.WideShapes Go.ChangeAt Go.RowKit
open Go.Deep (open_strs open_slice1 choose_lt)

theorem own : ownKnob Trym.prog.godebug = none := by kernel_rfl
theorem laidOut : laidOutB Trym.prog = true := by kernel_rfl
theorem cells9 : Trym.prog.cellsOf 9 = 1 := by kernel_rfl
theorem cells22 : Trym.prog.cellsOf 22 = 1 := by kernel_rfl

/-- A row of cells at an address, as the walk wants it: where there is a cell at all. -/
theorem at_plain {W : World} {a : Addr} {n : Nat} {V : Nat → Value} (h : ∀ i, i < n → W.cell? (a.add i) = some (V i)) :
    n = 0 ∨ ∃ b o, some a = some ⟨b, o, none⟩ ∧ b < W.heap.size ∧ ∀ i, i < n → W.cell? ⟨b, o + i, none⟩ = some (V i) := by
  rcases Nat.eq_zero_or_pos n with h0 | h0
  · exact .inl h0
  · right
    obtain ⟨b, off, spot⟩ := a
    have hspot : spot = none := by simpa [Addr.add] using World.cell?_spot (h 0 h0)
    subst hspot
    have hc : ∀ j, j < n → W.cell? ⟨b, off + j, none⟩ = some (V j) := fun j hj => by rw [← Go.WideShapes.add_plain]; exact h j hj
    exact ⟨b, off, rfl, World.block_lt_of_cell? _ _ (hc 0 h0), hc⟩

section
variable {H : Type} {enc : TypeId × Value → H} {W : World}

/-- A []string that came in. -/
theorem open_names {fuel : Nat} {cs : List Value} {x : DataW H × List MemPlace} (h : DataW.trod enc Trym.prog W 0 (fun _ => true) true fuel 22 cs = some x) :
    ∃ (p : Option Addr) (n c : Nat) (S : Nat → ByteArray), cs = [.slice p n c] ∧ n ≤ maxLen ∧ ShowsS W p n S ∧ ∀ i, i < n → (S i).size ≤ maxLen := by
  rcases open_strs Trym.underlying22 Trym.underlying9 cells9 h with ⟨hcs, _⟩ | ⟨a, len, cap, m, Sx, hcs, _, hl, hm, hmm, _, hx⟩
  · exact ⟨none, 0, 0, fun _ => ByteArray.empty, hcs, Nat.zero_le _, .inl rfl, fun i hi => by omega⟩
  · have hlm : len ≤ m := by rw [hmm]; simpa using hl
    exact ⟨some a, len, cap, Sx, hcs, by omega, at_plain (V := fun i => .string (Sx i)) (fun i hi => (hx i (by omega)).1), fun i hi => (hx i (by omega)).2⟩

/-- A [][]string that came in. -/
theorem open_children {fuel : Nat} {cs : List Value} {x : DataW H × List MemPlace} (h : DataW.trod enc Trym.prog W 0 (fun _ => true) true fuel 23 cs = some x) :
    ∃ (p : Option Addr) (n c : Nat) (A : Nat → Option Addr) (Ln C : Nat → Nat) (T : Nat → Nat → ByteArray), cs = [.slice p n c] ∧ n ≤ maxLen ∧ ShowsR W p n A Ln C ∧ (∀ i, i < n → ShowsS W (A i) (Ln i) (T i)) ∧ (∀ i, i < n → Ln i ≤ maxLen) ∧ ∀ i, i < n → ∀ j, j < Ln i → (T i j).size ≤ maxLen := by
  rcases open_slice1 Trym.underlying23 cells22 h with ⟨hcs, _⟩ | ⟨a, len, cap, m, f, V, D, Pl, hcs, _, hl, hm, hmm, _, hx⟩
  · exact ⟨none, 0, 0, fun _ => none, fun _ => 0, fun _ => 0, fun _ _ => ByteArray.empty, hcs, Nat.zero_le _, .inl rfl, fun i hi => by omega, fun i hi => by omega, fun i hi => by omega⟩
  · have hlm : len ≤ m := by rw [hmm]; simpa using hl
    obtain ⟨R, hR⟩ := choose_lt (α := Option Addr × Nat × Nat × (Nat → ByteArray)) (n := len) (p := fun i r => V i = .slice r.1 r.2.1 r.2.2.1 ∧ r.2.1 ≤ maxLen ∧ ShowsS W r.1 r.2.1 r.2.2.2 ∧ ∀ j, j < r.2.1 → (r.2.2.2 j).size ≤ maxLen) (fun i hi => by
      obtain ⟨p, n, c, S, h1, h2, h3, h4⟩ := open_names (hx i (by omega)).2
      exact ⟨(p, n, c, S), by simpa using h1, h2, h3, h4⟩)
    refine ⟨some a, len, cap, fun i => (R i).1, fun i => (R i).2.1, fun i => (R i).2.2.1, fun i => (R i).2.2.2, hcs, by omega, ?_, fun i hi => (hR i hi).2.2.1, fun i hi => (hR i hi).2.1, fun i hi => (hR i hi).2.2.2⟩
    exact at_plain (V := fun i => .slice (R i).1 (R i).2.1 (R i).2.2.1) (fun i hi => by rw [(hx i (by omega)).1, (hR i hi).1])
end

set_option maxRecDepth 100000 in
theorem lifted (os : Os) (started : os.Started) (H : Type) (enc : TypeId × Value → H) :
    ReturnsInHanded {} Trym.checked os 4 .any (Rows.fnSwitchLevelsIgnoreLineOrderSpec.pre6 enc Trym.prog Trym.f4 Rows.fnSwitchLevelsIgnoreLineOrderRow.domain false) (Rows.fnSwitchLevelsIgnoreLineOrderSpec.post enc Trym.prog Trym.f4 false true false false) := by
  refine returnsInHanded_of_change (C := Trym.checked) own started (by kernel_rfl) Trym.func4
    (ChangeSpec.witness6 (enc := enc) (C := Trym.checked) false ⟨#[], #[.slice none 0 0, .slice none 0 0], []⟩ 8 (by kernel_rfl) (by kernel_rfl) (by kernel_rfl) (by kernel_rfl)) ?_
  intro W base args ds gs before hval0 hW hcnd _
  have hval : ∀ (j : Nat) t v, Trym.f4.params[j]? = some t → args[j]? = some v → Value.okWide Trym.prog W .any base t v := hval0
  have hW' := hW
  obtain ⟨p, q, hA0, hV, rfl, hfz, hnd⟩ := hW
  have hA : DataW.TrodAll enc Trym.prog W 0 (fun _ => true) true Trym.f4.params.toList args.toList ds p := hA0
  rw [Trym.params4] at hA hval
  obtain ⟨v0, vs0, d0, ds0, p0, q0, hargs, rfl, rfl, h0, r0⟩ := trodAll_cons hA
  obtain ⟨v1, vs1, d1, ds1, p1, q1, rfl, rfl, rfl, h1, r1⟩ := trodAll_cons r0
  obtain ⟨rfl, rfl, rfl⟩ := trodAll_nil r1
  obtain rfl : args = #[v0, v1] := by cases args; simp_all
  obtain ⟨rfl, rfl⟩ := trodVars_none hV
  obtain ⟨a0, len0, cap0, rfl⟩ := okWide_slice Trym.underlying22 (hval 0 22 v0 rfl rfl)
  obtain ⟨a1, len1, cap1, rfl⟩ := okWide_slice Trym.underlying23 (hval 1 23 v1 rfl rfl)
  have k0 := h0
  have k1 := h1
  have lt0 : ∀ x ∈ p0, x.block < W.heap.size := by obtain ⟨m, hm⟩ := k0; exact DataW.trod_lt m _ _ _ hm
  have lt1 : ∀ x ∈ p1, x.block < W.heap.size := by obtain ⟨m, hm⟩ := k1; exact DataW.trod_lt m _ _ _ hm
  obtain ⟨f0, hf0⟩ := h0
  obtain ⟨f1, hf1⟩ := h1
  obtain ⟨x0, n0, c0, S, e0, hn0, hs0, hz0⟩ := open_names hf0
  obtain ⟨x1, n1, c1, A, Ln, C, T, e1, hn1, hr1, ht1, hl1, hz1⟩ := open_children hf1
  simp [Value.cells] at e0 e1
  obtain ⟨rfl, rfl, rfl⟩ := e0
  obtain ⟨rfl, rfl, rfl⟩ := e1
  clear hA0 hval0
  have hmx : maxLen ≤ 9223372036854775807 := by unfold maxLen; omega
  refine (lawF a0 a1 len0 cap0 len1 cap1 S A Ln C T W (Nat.le_trans hn0 hmx) (Nat.le_trans hn1 hmx) hs0 hr1 ht1 hz0 hl1 hz1).mono fun e W' ⟨he, bel⟩ => ?_
  subst he
  exact ⟨_, rfl, _, _, _, [], _, [], hW', trodAll_mk1 (shut_bool Trym.underlying4 _), (trodAll_cons_mk (Below.trod laidOut (by kernel_rfl) (of_decide_eq_true (by kernel_rfl)) k0 bel lt0) (trodAll_cons_mk (Below.trod laidOut (by kernel_rfl) (of_decide_eq_true (by kernel_rfl)) k1 bel lt1) trodAll_mk0)), rfl, bel.frame _, fun h => by cases h⟩

theorem over : Rows.fnSwitchLevelsIgnoreLineOrderRow.holds Trym.pinned (OpenSpec.ofChange Rows.fnSwitchLevelsIgnoreLineOrderSpec) :=
  OpenClaim.holds_of_wide 4 Trym.f4 rfl rfl rfl rfl rfl rfl rfl ⟨rfl, rfl, rfl, rfl, rfl⟩ rfl rfl rfl rfl rfl (by kernel_rfl) Trym.func4 (by kernel_rfl)
    (of_decide_eq_true (by kernel_rfl)) (by unfold Func.isWrapper; first | (rw [if_pos (by decide +kernel)]; kernel_rfl) | (rw [if_neg (by decide +kernel)]; exact ⟨rfl, rfl⟩))
    (fun os started H enc _ => lifted os started H enc)

/-- ████ THE STATEMENT ████ -/
theorem proved : Rows.FnSwitchLevelsIgnoreLineOrderSaid := over
#print axioms proved
end Go.Proofs.Qxb6600042aMods.fnSwitchLevelsIgnoreLineOrder
