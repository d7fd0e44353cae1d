import Derived.Test.Qxb6601975aModsClone
import Derived.Laws.AppendOwnNone
import Derived.ArgAppend
import Derived.Deep.Light
namespace Go.Proofs.Qxb6601975aMods
open Go.RowKit

/-- A block of N cells of bytes whose tail, from i on, holds xs. -/
def Buf (w : World) (g t N i : Nat) (xs : List Int) : Prop :=
  ∃ cur : Array Value, w.heap[g]? = some (.cells cur t (0, 0)) ∧ cur.size = N ∧ i + xs.length = N ∧ (∀ j, j < xs.length → cur[i + j]? = some (.int .u8 (xs.getD j 0))) ∧ ∀ j, j < N → ∃ z, cur[j]? = some (.int .u8 z)

theorem Buf.cell {w : World} {g t N i : Nat} {xs : List Int} (h : Buf w g t N i xs) (j : Nat) (hj : j < N) : ∃ z, w.cell? ⟨g, j, none⟩ = some (.int .u8 z) := by
  obtain ⟨cur, h1, h2, h3, h4, h5⟩ := h
  obtain ⟨z, hz⟩ := h5 j hj
  exact ⟨z, by rw [cell_of_row w g j cur t (0, 0) h1, hz]⟩

theorem Buf.frozen {w : World} {g t N i : Nat} {xs : List Int} (h : Buf w g t N i xs) (j : Nat) : w.frozen? ⟨g, j, none⟩ = false := by
  obtain ⟨cur, h1, h2, h3, h4, h5⟩ := h
  simp [World.frozen?, h1]

theorem Buf.shows {w : World} {g t N i : Nat} {xs : List Int} (h : Buf w g t N i xs) : Shows w (some ⟨g, i, none⟩) xs.length xs := by
  obtain ⟨cur, h1, h2, h3, h4, h5⟩ := h
  refine .inr ⟨g, i, rfl, ?_, fun j hj => ?_⟩
  · rcases Nat.lt_or_ge g w.heap.size with h' | h'
    · exact h'
    · rw [Array.getElem?_eq_none h'] at h1; cases h1
  · rw [cell_of_row w g (i + j) cur t (0, 0) h1, h4 j hj]

theorem Buf.store {w : World} {g t N i : Nat} {xs : List Int} (h : Buf w g t N i xs) (hi : 1 ≤ i) (d : Int) : Buf (w.setCell ⟨g, i - 1, none⟩ (.int .u8 d)) g t N (i - 1) (d :: xs) := by
  obtain ⟨cur, h1, h2, h3, h4, h5⟩ := h
  refine ⟨cur.setIfInBounds (i - 1) (.int .u8 d), heap_setCell_same w g (i - 1) cur t _ h1, by simpa using h2, by simp; omega, fun j hj => ?_, fun j hj => ?_⟩
  · cases j with
    | zero => simp [Array.getElem?_setIfInBounds, h2]; omega
    | succ j =>
      rw [Array.getElem?_setIfInBounds, if_neg (by omega), show i - 1 + (j + 1) = i + j by omega, h4 j (by simpa using hj)]
      simp
  · rw [Array.getElem?_setIfInBounds]
    by_cases h : i - 1 = j
    · rw [if_pos h, if_pos (by omega)]; exact ⟨d, rfl⟩
    · rw [if_neg h]; exact h5 j hj

theorem heap_new (w : World) (o : Obj) : (w.alloc o).heap[w.heap.size]? = some o := by
  show (w.heap.push o)[w.heap.size]? = _
  simp

theorem ownsRow_base {w : World} {base base' : Nat} {e : TypeId} {size : Nat} {v : Value} {n : Nat} {xs : List Value} (h : w.ownsRow base e size v n xs) (hb : base' ≤ base) : w.ownsRow base' e size v n xs := by
  obtain ⟨h1, h2⟩ := h
  refine ⟨h1, ?_⟩
  rcases h2 with h2 | ⟨g, cap, cur, hv, hg, r⟩
  · exact .inl h2
  · exact .inr ⟨g, cap, cur, hv, Nat.le_trans hb hg, r⟩

/-- Bytes as cells. -/
def by8 (l : List Int) : List Value := l.map (Value.int .u8)

theorem own_fix {w : World} {base : Nat} {v : Value} {n : Nat} {l : List Int} (h : w.ownsRow base 5 1 v n (by8 l)) : w.ownsRow base 5 1 v l.length (by8 l) := by
  have : l.length = n := by simpa [by8] using h.1
  rw [this]
  exact h

theorem bel_app {B : Nat} {w wr w2 : World} {v : Value} {n : Nat} {xs : List Value} (hb : Below B w wr) (hown : wr.ownsRow B 5 1 v n xs) (hg : wr.grownBy w2 v.ownBlock) (hB : B ≤ wr.heap.size) : Below B w w2 :=
  hb.grown hg hB (fun k h => (hown.lt k h).1)

/-- The cells that a slice shows, as the laws on append ask for them. -/
theorem Shows.cells {w : World} {ad : Addr} {m : Nat} {ys : List Int} (hy : ys.length = m) (h : Shows w (some ad) m ys) :
    ∀ j u, (ys.map (Value.int .u8))[j]? = some u → w.cell? (ad.add j) = some u := by
  intro j u hu
  have hj : j < ys.length := by
    have := (List.getElem?_eq_some_iff.1 hu).1
    simpa using this
  rcases h with h | ⟨b, o, h1, h2, h3⟩
  · omega
  · cases h1
    rw [Addr.add_lit, h3 j (by omega)]
    simp [hj] at hu
    simp [List.getD, hj, hu]

/-- 'x = append(x, ys...)', x the call's own row of bytes, ys whatever. As a law on one operation. -/
theorem wp_app {o : Oper} {a : Act} {K : Act → World → Prop} {Q : Exit → Act → World → Prop} (w : World) (s x : Operand)
    (ho : o.op = .call { callee := .builtin .append, args := #[s, x], argTypes := #[22, 22] })
    (base : Nat) (v : Value) (n : Nat) (xs : List Int) (hs : a.eval s = v) (hown : w.ownsRow base 5 1 v n (by8 xs))
    (ao : Option Addr) (m c : Nat) (ys : List Int) (hx : a.eval x = .slice ao m c) (hy : ys.length = m) (hsh : Shows w ao m ys) (hnone : ao = none → m = 0 ∧ c = 0)
    (bd : n + m ≤ 1099511627776) (hbase : base ≤ w.heap.size)
    (h : ∀ v' w', w'.ownsRow base 5 1 v' (n + m) (by8 (xs ++ ys)) → w.grownBy w' v.ownBlock → K (a.put o.dst v') w') : o.wp Trym.prog a w K Q := by
  obtain ⟨i0, hi, hz0, hz1, hz2⟩ := info_parts Trym.info5
  cases ao with
  | some ad =>
    refine wp_append_own w s x 22 ho base 5 i0 (.int .u8 0) 1 1 Trym.underlying22 hi hz0 hz1 hz2 rfl (by decide) v n (xs.map (Value.int .u8)) hs hown ad m c (ys.map (Value.int .u8)) hx (by simp [hy]) (hsh.cells hy) (ints_oneCell _ _) (by unfold maxLen; omega) (by omega) hbase ?_
    intro v' w' h1 h2 _
    rw [← List.map_append] at h1
    exact h v' w' h1 h2
  | none =>
    obtain ⟨rfl, rfl⟩ := hnone rfl
    have : ys = [] := List.eq_nil_of_length_eq_zero hy
    subst this
    have hrun := run_append_owned_none (P := Trym.prog) (w := w) base 22 o.type 5 i0 1 Trym.underlying22 hi v n _ hown
    unfold Oper.wp
    simp [execOp, ho, resolve, invoke, builtin, hs, hx, hrun, Result.andThen]
    exact h v w (by rw [List.append_nil]; exact hown) (World.grownBy.refl _ _)

theorem wpList_app {ops : Array Oper} {rest : List Oper} {o : Oper} {a : Act} {Q : Exit → Act → World → Prop} (w : World) (hg : o.guard = none) (s x : Operand)
    (ho : o.op = .call { callee := .builtin .append, args := #[s, x], argTypes := #[22, 22] })
    (base : Nat) (v : Value) (n : Nat) (xs : List Int) (hs : a.eval s = v) (hown : w.ownsRow base 5 1 v n (by8 xs))
    (ao : Option Addr) (m c : Nat) (ys : List Int) (hx : a.eval x = .slice ao m c) (hy : ys.length = m) (hsh : Shows w ao m ys) (hnone : ao = none → m = 0 ∧ c = 0)
    (bd : n + m ≤ 1099511627776) (hbase : base ≤ w.heap.size)
    (h : ∀ v' w', w'.ownsRow base 5 1 v' (n + m) (by8 (xs ++ ys)) → w.grownBy w' v.ownBlock → wpList Trym.prog ops Q rest (a.put o.dst v') w') : wpList Trym.prog ops Q (o :: rest) a w :=
  wpList_plain hg fun _ hK => wp_app w s x ho base v n xs hs hown ao m c ys hx hy hsh hnone bd hbase fun v' w' h2 h3 => hK _ _ (h v' w' h2 h3)

/-- The first append, onto a full slice: a new row. -/
theorem wpList_app_new {ops : Array Oper} {rest : List Oper} {o : Oper} {a : Act} {Q : Exit → Act → World → Prop} (w : World) (hg : o.guard = none) (s x : Operand)
    (ho : o.op = .call { callee := .builtin .append, args := #[s, x], argTypes := #[22, 22] })
    (p : Option Addr) (n c0 : Nat) (xs : List Int) (hs : a.eval s = .slice p n c0) (hxs : xs.length = n) (hp : p = none → n = 0 ∧ c0 = 0) (hsx : Shows w p n xs)
    (ad : Addr) (m c : Nat) (ys : List Int) (hx : a.eval x = .slice (some ad) m c) (hy : ys.length = m) (hsh : Shows w (some ad) m ys)
    (hfull : c0 < n + m) (bd : n + m ≤ 1099511627776)
    (h : ∀ v' w', w'.ownsRow w.heap.size 5 1 v' (n + m) (by8 (xs ++ ys)) → w.grownBy w' none → wpList Trym.prog ops Q rest (a.put o.dst v') w') : wpList Trym.prog ops Q (o :: rest) a w := by
  obtain ⟨i0, hi, hz0, hz1, hz2⟩ := info_parts Trym.info5
  refine wpList_append_grows w hg s x 22 ho 5 i0 (.int .u8 0) 1 1 Trym.underlying22 hi hz0 hz1 hz2 rfl (by decide) p n c0 (xs.map (Value.int .u8)) hs hp (by simp [hxs]) (fun b hb => ?_) ad m c (ys.map (Value.int .u8)) hx (by simp [hy]) (hsh.cells hy) (ints_oneCell _ _) hfull (by unfold maxLen; omega) (by omega) ?_
  · subst hb; exact hsx.cells hxs
  · intro v' w' h1 h2
    rw [← List.map_append] at h1
    exact h v' w' h1 h2

/-- A literal of one, two, six bytes, in the block that was just laid. -/
theorem shows_lit (w : World) (ys : List Int) (t : TypeId) : Shows (w.alloc (.cells (ys.map (Value.int .u8)).toArray t)) (some ⟨w.heap.size, 0, none⟩) ys.length ys := by
  refine .inr ⟨w.heap.size, 0, rfl, by simp, fun i hi => ?_⟩
  rw [cell_of_row _ _ _ _ _ _ (heap_new w _)]
  simp [hi, List.getD]


/-- Ten zero bytes. -/
theorem buf_new (w : World) : Buf (w.alloc (.cells #[.int .u8 0, .int .u8 0, .int .u8 0, .int .u8 0, .int .u8 0, .int .u8 0, .int .u8 0, .int .u8 0, .int .u8 0, .int .u8 0] 32)) w.heap.size 32 10 10 [] := by
  refine ⟨_, heap_new _ _, rfl, rfl, fun j hj => by simp at hj, fun j hj => ⟨0, ?_⟩⟩
  show (List.replicate 10 (Value.int .u8 0)).toArray[j]? = _
  rw [List.getElem?_toArray, List.getElem?_replicate, if_pos hj]

theorem slice_buf (g i : Nat) (L : Int) (hL : L = i) (hi : i < 10) (W : World) :
    (Instr.sliceAt 32 (.pointer (some ⟨g, 0, none⟩)) (some (.int .i64 L)) none none).run Trym.prog W = .ok (.slice (some ⟨g, i, none⟩) (10 - i) (10 - i)) W := by
  subst hL
  have ht : Trym.prog.underlying 32 = some (.array (Trym.prog.arrayLen 32) (Trym.prog.elem 32)) := by kernel_rfl
  have hl : Trym.prog.arrayLen 32 = 10 := by kernel_rfl
  have he : Trym.prog.elem 32 = 5 := by kernel_rfl
  obtain ⟨i0, h0, hz0, hz1, hz2⟩ := info_parts Trym.info5
  rw [run_sliceAt_array_l (P := Trym.prog) W 32 ⟨g, 0, none⟩ ht .i64 (i : Int) (by omega) (by rw [hl]; omega), he, hl]
  have hne : ¬ 10 = i := by omega
  simp [sizeOf, typeInfo, h0, hz1, slicedAt, hne, Addr.add_lit]

end Go.Proofs.Qxb6601975aMods
