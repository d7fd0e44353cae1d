import Derived.Test.Qxb6600042aModsChecked
import Derived.WalkKit
import Derived.WalkSpells
import Derived.WalkLawsBesides
import Derived.Maps.AppendAt
import Derived.Deep.AppendLies
import Derived.Deep.LoopGhost
import Derived.Deep.Light
import Derived.Deep.Draws
import Derived.Laws.AppendOwnNone
namespace Go.Proofs.Qxb6600042aMods
open Go.RowKit

theorem Trym.info3 : (Trym.prog.info? 3).map (fun i => (i.zero, i.size, i.bytes)) = some (some (.int .i64 0), 1, 8) := by kernel_rfl
theorem Trym.info4 : (Trym.prog.info? 4).map (fun i => (i.zero, i.size, i.bytes)) = some (some (.bool false), 1, 1) := by kernel_rfl
theorem Trym.info27 : (Trym.prog.info? 27).map (fun i => (i.zero, i.size, i.bytes)) = some (some (.slice none 0 0), 1, 24) := by kernel_rfl

theorem hide {p : Prop} (h : p) : Hid p := h
theorem unhide {p : Prop} (h : Hid p) : p := h
theorem ret_bool {a b : Bool} (h : a = b) : Ending.returned (.bool b) = .returned (.bool a) := by rw [h]
theorem below_draws (B : Nat) (w : World) (q : Nat) : Below B w (w.drewN q) := ⟨rfl, rfl, rfl, Nat.le_refl _, fun _ _ => rfl⟩
theorem drewN_twice (w : World) (a b : Nat) : (w.drewN a).drewN b = w.drewN (a + b) := by
  simp [World.drewN, Nat.add_assoc]

/-- Numbers as cells. -/
def ints (l : List Int) : List Value := l.map (Value.int .i64)
theorem ints_length (l : List Int) : (ints l).length = l.length := by simp [ints]
theorem ints_get (l : List Int) (i : Nat) (h : i < l.length) : (ints l)[i]? = some (.int .i64 (l.getD i 0)) := by simp [ints, h, List.getD]
theorem ints_set (l : List Int) (i : Nat) (x : Int) : (ints l).set i (.int .i64 x) = ints (l.set i x) := by simp [ints, List.map_set]
theorem ints_snoc (l : List Int) (x : Int) : ints l ++ [.int .i64 x] = ints (l ++ [x]) := by simp [ints]
theorem ints_append (a b : List Int) : ints a ++ ints b = ints (a ++ b) := by simp [ints]
theorem ints_one (l : List Int) : ∀ u ∈ ints l, u.oneCell' = true := ints_oneCell _ _

/-- Truth values as cells. -/
def bools (l : List Bool) : List Value := l.map Value.bool
theorem bools_length (l : List Bool) : (bools l).length = l.length := by simp [bools]
theorem bools_get (l : List Bool) (i : Nat) (h : i < l.length) : (bools l)[i]? = some (.bool (l.getD i false)) := by simp [bools, h, List.getD]
theorem bools_set (l : List Bool) (i : Nat) (x : Bool) : (bools l).set i (.bool x) = bools (l.set i x) := by simp [bools, List.map_set]

theorem getD_set {α : Type} (l : List α) (i j : Nat) (x d : α) (h : i < l.length) : (l.set i x).getD j d = if i = j then x else l.getD j d := by
  simp only [List.getD_eq_getElem?_getD, List.getElem?_set]
  by_cases e : i = j
  · subst e; simp [h]
  · simp [e]

/-- Block g is a row of just these cells, none frozen. -/
def IsBlk (w : World) (g t : Nat) (l : List Value) : Prop := w.heap[g]? = some (.cells l.toArray t (0, 0))

theorem IsBlk.lt {w : World} {g t : Nat} {l : List Value} (h : IsBlk w g t l) : g < w.heap.size := by
  rcases Nat.lt_or_ge g w.heap.size with h' | h'
  · exact h'
  · unfold IsBlk at h; rw [Array.getElem?_eq_none h'] at h; cases h
theorem IsBlk.cell {w : World} {g t : Nat} {l : List Value} (h : IsBlk w g t l) (i : Nat) : w.cell? ⟨g, i, none⟩ = l[i]? := by
  rw [cell_of_row w g i l.toArray t (0, 0) h]; simp
theorem IsBlk.frozen {w : World} {g t : Nat} {l : List Value} (h : IsBlk w g t l) (i : Nat) : w.frozen? ⟨g, i, none⟩ = false := by
  unfold IsBlk at h; simp [World.frozen?, h]
theorem IsBlk.set {w : World} {g t : Nat} {l : List Value} (h : IsBlk w g t l) (i : Nat) (v : Value) : IsBlk (w.setCell ⟨g, i, none⟩ v) g t (l.set i v) := by
  have := heap_setCell_same w g i l.toArray t v h
  unfold IsBlk
  rw [this]
  simp
theorem IsBlk.kept {w w' : World} {g t : Nat} {l : List Value} {row : Option Nat} (h : IsBlk w g t l) (hg : w.grownBy w' row) (hne : some g ≠ row) : IsBlk w' g t l := by
  unfold IsBlk
  rw [hg.block g h.lt hne]
  exact h
theorem IsBlk.below {w w' : World} {g t B : Nat} {l : List Value} (h : IsBlk w g t l) (hb : Below B w w') (hB : g < B) : IsBlk w' g t l := by
  unfold IsBlk
  rw [hb.block g hB]
  exact h
theorem IsBlk.alloc {w : World} {g t : Nat} {l : List Value} (h : IsBlk w g t l) (o : Obj) : IsBlk (w.alloc o) g t l := h.kept (World.grownBy_alloc w o none) (by simp)
theorem grown_set (w : World) (g i : Nat) (v : Value) : w.grownBy (w.setCell ⟨g, i, none⟩ v) (some g) :=
  ⟨rfl, rfl, rfl, by simp [World.setCell], fun k _ hk => Below.heap_setCell w ⟨g, i, none⟩ v k (fun e => hk (by simp [e]))⟩

/-- A full row of the call's own. -/
theorem blk_of_own {w : World} {base e g n : Nat} {xs : List Value} (h : w.ownsRow base e 1 (.slice (some ⟨g, 0, none⟩) n n) n xs) : IsBlk w g e xs := by
  rcases h.2 with ⟨h', _⟩ | ⟨g', cap, cur, h', _, hh, _, _, hs, ht⟩
  · cases h'
  · cases h'
    unfold IsBlk
    rw [hh, ← ht]
    congr 2
    apply Array.ext'
    simp
    rw [List.take_of_length_le (by simp; omega)]

theorem own_of_blk {w : World} {base e g n : Nat} {xs : List Value} (h : IsBlk w g e xs) (hb : base ≤ g) (hn : xs.length = n) (hm : n ≤ maxLen) : w.ownsRow base e 1 (.slice (some ⟨g, 0, none⟩) n n) n xs :=
  ⟨by omega, .inr ⟨g, n, xs.toArray, rfl, hb, h, Nat.le_refl _, hm, by simp; omega, by simp; rw [List.take_of_length_le (by omega)]⟩⟩

theorem heap_new (w : World) (o : Obj) : (w.alloc o).heap[w.heap.size]? = some o := by
  show (w.heap.push o)[w.heap.size]? = _
  simp

theorem ownsRow_base {w : World} {base base' : Nat} {e : TypeId} {size : Nat} {v : Value} {n : Nat} {xs : List Value} (h : w.ownsRow base e size v n xs) (hb : base' ≤ base) : w.ownsRow base' e size v n xs := by
  obtain ⟨h1, h2⟩ := h
  refine ⟨h1, ?_⟩
  rcases h2 with h2 | ⟨g, cap, cur, hv, hg, r⟩
  · exact .inl h2
  · exact .inr ⟨g, cap, cur, hv, Nat.le_trans hb hg, r⟩

theorem own_fix {w : World} {base : Nat} {v : Value} {n : Nat} {l : List Int} (h : w.ownsRow base 3 1 v n (ints l)) : w.ownsRow base 3 1 v l.length (ints l) := by
  have : l.length = n := by simpa [ints] using h.1
  rw [this]
  exact h

theorem bel_own {B : Nat} {w wr w2 : World} {e : TypeId} {v : Value} {n : Nat} {xs : List Value} (hb : Below B w wr) (hown : wr.ownsRow B e 1 v n xs) (hg : wr.grownBy w2 v.ownBlock) (hB : B ≤ wr.heap.size) : Below B w w2 :=
  hb.grown hg hB (fun k h => (hown.lt k h).1)

/-- The slice (p, n) shows the numbers xs. -/
def Shows (w : World) (p : Option Addr) (n : Nat) (xs : List Int) : Prop :=
  n = 0 ∨ ∃ b o, p = some ⟨b, o, none⟩ ∧ b < w.heap.size ∧ ∀ i, i < n → w.cell? ⟨b, o + i, none⟩ = some (.int .i64 (xs.getD i 0))
theorem Shows.below {w w' : World} {p : Option Addr} {n B : Nat} {xs : List Int} (h : Shows w p n xs) (hb : Below B w w') (hB : w.heap.size ≤ B) : Shows w' p n xs := by
  rcases h with h | ⟨b, o, h1, h2, h3⟩
  · exact .inl h
  · exact .inr ⟨b, o, h1, Nat.lt_of_lt_of_le h2 hb.size, fun i hi => (hb.cell (by exact Nat.lt_of_lt_of_le h2 hB)).trans (h3 i hi)⟩

/-- One number appended onto a row of the call's own. -/
theorem wpList_push {ops : Array Oper} {rest : List Oper} {o : Oper} {a : Act} {Q : Exit → Act → World → Prop} (w : World) (hg : o.guard = none) (s x : Operand)
    (ho : o.op = .call { callee := .builtin .append, args := #[s, x], argTypes := #[27, 27] })
    (base : Nat) (v : Value) (n : Nat) (xs : List Int) (hs : a.eval s = v) (hown : w.ownsRow base 3 1 v n (ints xs))
    (y : Int) (H : Nat) (hH : w.heap.size = H) (hx : a.eval x = .slice (some ⟨H, 0, none⟩) 1 1) (bd : n + 1 ≤ 1099511627776) (hbase : base ≤ w.heap.size)
    (h : ∀ v' w', w'.ownsRow base 3 1 v' (n + 1) (ints (xs ++ [y])) → (w.alloc (.cells #[.int .i64 y] 3)).grownBy w' v.ownBlock → (v'.ownBlock = v.ownBlock ∨ v'.ownBlock = some (w.heap.size + 1)) → wpList Trym.prog ops Q rest (a.put o.dst v') w') :
    wpList Trym.prog ops Q (o :: rest) a (w.alloc (.cells #[.int .i64 y] 3)) := by
  subst hH
  obtain ⟨i0, hi, hz0, hz1, hz2⟩ := info_parts Trym.info3
  refine wpList_append_own_at _ hg s x 27 ho base 3 i0 (.int .i64 0) 1 8 Trym.underlying27 hi hz0 hz1 hz2 rfl (by decide) v n (ints xs) hs (hown.alloc _) ⟨w.heap.size, 0, none⟩ 1 1 [.int .i64 y] hx rfl (cell_one_new _ _ _) (by simp [Value.oneCell']) (by unfold maxLen; omega) (by omega) (by simp; omega) ?_
  intro v' w' h1 h2 _ h4
  rw [ints_snoc] at h1
  exact h v' w' h1 h2 (by simpa using h4)

theorem Shows.cells {w : World} {ad : Addr} {m : Nat} {ys : List Int} (hy : ys.length = m) (h : Shows w (some ad) m ys) :
    ∀ j u, (ints ys)[j]? = some u → w.cell? (ad.add j) = some u := by
  intro j u hu
  have hj : j < ys.length := by
    have := (List.getElem?_eq_some_iff.1 hu).1
    simpa [ints] using this
  rcases h with h | ⟨b, o, h1, h2, h3⟩
  · omega
  · cases h1
    rw [Addr.add_lit, h3 j (by omega)]
    rw [ints_get _ _ hj] at hu
    exact hu

theorem shows_own {w : World} {base : Nat} {v : Value} {n : Nat} {xs : List Int} (h : w.ownsRow base 3 1 v n (ints xs)) :
    ∃ p c, v = .slice p n c ∧ n ≤ c ∧ c ≤ maxLen ∧ xs.length = n ∧ Shows w p n xs ∧ (p = none → n = 0 ∧ c = 0) := by
  have hl : xs.length = n := by simpa [ints] using h.1
  have h0 := h
  rcases h.2 with ⟨h1, h2⟩ | ⟨g, cap, cur, h1, h2, h3, h4, h5, h6, h7⟩
  · subst h2
    exact ⟨none, 0, h1, Nat.le_refl _, by unfold maxLen; omega, hl, .inl rfl, fun _ => ⟨rfl, rfl⟩⟩
  · subst h1
    refine ⟨_, cap, rfl, h4, h5, hl, .inr ⟨g, 0, rfl, ?_, fun i hi => ?_⟩, fun h => by cases h⟩
    · rcases Nat.lt_or_ge g w.heap.size with h' | h'
      · exact h'
      · rw [Array.getElem?_eq_none h'] at h3; cases h3
    · rw [Nat.zero_add, h0.cellAt i (by omega), ints_get _ _ (by omega)]

/-- 'append(x, ys...)', x the call's own row of numbers, ys whatever. -/
theorem wpList_cat {ops : Array Oper} {rest : List Oper} {o : Oper} {a : Act} {Q : Exit → Act → World → Prop} (w : World) (hg : o.guard = none) (s x : Operand)
    (ho : o.op = .call { callee := .builtin .append, args := #[s, x], argTypes := #[27, 27] })
    (base : Nat) (v : Value) (n : Nat) (xs : List Int) (hs : a.eval s = v) (hown : w.ownsRow base 3 1 v n (ints xs))
    (ao : Option Addr) (m c : Nat) (ys : List Int) (hx : a.eval x = .slice ao m c) (hy : ys.length = m) (hsh : Shows w ao m ys) (hnone : ao = none → m = 0 ∧ c = 0)
    (bd : n + m ≤ 1099511627776) (hbase : base ≤ w.heap.size)
    (h : ∀ v' w', w'.ownsRow base 3 1 v' (n + m) (ints (xs ++ ys)) → w.grownBy w' v.ownBlock → wpList Trym.prog ops Q rest (a.put o.dst v') w') : wpList Trym.prog ops Q (o :: rest) a w := by
  obtain ⟨i0, hi, hz0, hz1, hz2⟩ := info_parts Trym.info3
  cases ao with
  | some ad =>
    refine wpList_append_own w hg s x 27 ho base 3 i0 (.int .i64 0) 1 8 Trym.underlying27 hi hz0 hz1 hz2 rfl (by decide) v n (ints xs) hs hown ad m c (ints ys) hx (by rw [ints_length, hy]; omega) (hsh.cells hy) (ints_one _) (by unfold maxLen; omega) (by omega) hbase ?_
    intro v' w' h1 h2 _
    rw [ints_append] at h1
    exact h v' w' h1 h2
  | none =>
    obtain ⟨rfl, rfl⟩ := hnone rfl
    have : ys = [] := List.eq_nil_of_length_eq_zero hy
    subst this
    refine wpList_append_own_none hg s x 27 ho base 3 i0 1 Trym.underlying27 hi v n (ints xs) hs hown hx ?_
    exact h v w (by rw [List.append_nil]; exact hown) (World.grownBy.refl _ _)

end Go.Proofs.Qxb6600042aMods
