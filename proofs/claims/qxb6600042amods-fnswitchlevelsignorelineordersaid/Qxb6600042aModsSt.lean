import Derived.Test.Qxb6600042aModsReach
namespace Go.Proofs.Qxb6600042aMods
open Go.RowKit

/-- The state of the counting in memory: levels, waiting, holders, counted. -/
structure Sw (w wr : World) (n gl gw gh B : Nat) (Lv Wt : List Int) (V : Nat → Value) (F : Nat → List Int) : Prop where
  lev : IsBlk wr gl 3 (ints Lv)
  wait : IsBlk wr gw 3 (ints Wt)
  hold : IsBlk wr gh 27 (row n V)
  fam : Fam wr B (n + 1) V F
  bel : Below w.heap.size w wr
  lt0 : w.heap.size ≤ gl
  lt1 : gl < gw
  lt2 : gw < gh
  lt3 : gh < B
  lt4 : B ≤ wr.heap.size

section
variable {w wr : World} {n gl gw gh B : Nat} {Lv Wt : List Int} {V : Nat → Value} {F : Nat → List Int}

theorem Sw.grown {w' : World} (h : Sw w wr n gl gw gh B Lv Wt V F) (hg : wr.grownBy w' none) : Sw w w' n gl gw gh B Lv Wt V F :=
  ⟨h.lev.kept hg (by simp), h.wait.kept hg (by simp), h.hold.kept hg (by simp), h.fam.kept hg (fun k e => by cases e), h.bel.grown hg (by have := h.bel.size; omega) (fun k e => by cases e), h.lt0, h.lt1, h.lt2, h.lt3, by have := h.lt4; have := hg.size; omega⟩
theorem Sw.alloc (h : Sw w wr n gl gw gh B Lv Wt V F) (o : Obj) : Sw w (wr.alloc o) n gl gw gh B Lv Wt V F := h.grown (World.grownBy_alloc wr o none)
theorem Sw.drew (h : Sw w wr n gl gw gh B Lv Wt V F) : Sw w wr.drew n gl gw gh B Lv Wt V F :=
  ⟨h.lev, h.wait, h.hold, ⟨h.fam.own, h.fam.sep⟩, h.bel.drew, h.lt0, h.lt1, h.lt2, h.lt3, h.lt4⟩

theorem Sw.setL (h : Sw w wr n gl gw gh B Lv Wt V F) (i : Nat) (x : Int) : Sw w (wr.setCell ⟨gl, i, none⟩ (.int .i64 x)) n gl gw gh B (Lv.set i x) Wt V F := by
  have l0 := h.lt0
  have l1 := h.lt1
  have l2 := h.lt2
  have l3 := h.lt3
  have l4 := h.lt4
  refine ⟨?_, h.wait.kept (grown_set wr gl i _) (by simp; omega), h.hold.kept (grown_set wr gl i _) (by simp; omega), h.fam.set gl i _ (by omega), h.bel.setCell (by exact l0) _, l0, l1, l2, l3, ?_⟩
  · have := h.lev.set i (.int .i64 x)
    rw [ints_set] at this
    exact this
  · have := (grown_set wr gl i (.int .i64 x)).size
    omega
theorem Sw.setW (h : Sw w wr n gl gw gh B Lv Wt V F) (i : Nat) (x : Int) : Sw w (wr.setCell ⟨gw, i, none⟩ (.int .i64 x)) n gl gw gh B Lv (Wt.set i x) V F := by
  have l0 := h.lt0
  have l1 := h.lt1
  have l2 := h.lt2
  have l3 := h.lt3
  have l4 := h.lt4
  refine ⟨h.lev.kept (grown_set wr gw i _) (by simp; omega), ?_, h.hold.kept (grown_set wr gw i _) (by simp; omega), h.fam.set gw i _ (by omega), h.bel.setCell (by show w.heap.size ≤ gw; omega) _, l0, l1, l2, l3, ?_⟩
  · have := h.wait.set i (.int .i64 x)
    rw [ints_set] at this
    exact this
  · have := (grown_set wr gw i (.int .i64 x)).size
    omega

theorem Sw.kid {w5 : World} {p : Nat} {y : Int} {o : Obj} {v' : Value} (h : Sw w wr n gl gw gh B Lv Wt V F) (hp : p < n)
    (hown : w5.ownsRow B 3 1 v' ((F p).length + 1) (ints (F p ++ [y]))) (hg : (wr.alloc o).grownBy w5 (V p).ownBlock) (hat : v'.ownBlock = (V p).ownBlock ∨ v'.ownBlock = some (wr.heap.size + 1)) :
    Sw w (w5.setCell ⟨gh, p, none⟩ v') n gl gw gh B Lv Wt (upd V p v') (upd F p (F p ++ [y])) := by
  have l0 := h.lt0
  have l1 := h.lt1
  have l2 := h.lt2
  have l3 := h.lt3
  have l4 := h.lt4
  have hrow : ∀ k, (V p).ownBlock = some k → B ≤ k := fun k e => ((h.fam.own p (by omega)).lt k e).1
  have hl := (h.lev.alloc o).kept hg (fun e => by have := hrow gl e.symm; omega)
  have hw := (h.wait.alloc o).kept hg (fun e => by have := hrow gw e.symm; omega)
  have hh := (h.hold.alloc o).kept hg (fun e => by have := hrow gh e.symm; omega)
  have hf := (h.fam.alloc o).push (by omega) hown hg hat (by simp)
  have hs := hg.size
  refine ⟨hl.kept (grown_set w5 gh p v') (by simp; omega), hw.kept (grown_set w5 gh p v') (by simp; omega), ?_, hf.set gh p v' (by omega), ?_, l0, l1, l2, l3, ?_⟩
  · have := hh.set p v'
    rw [row_set] at this
    exact this
  · exact ((h.bel.alloc (by omega) o).grown hg (by simp; omega) (fun k e => by have := hrow k e; omega)).setCell (by show w.heap.size ≤ gh; omega) _
  · have := (grown_set w5 gh p v').size
    simp at hs
    omega

theorem Sw.push {w5 : World} {y : Int} {o : Obj} {v' : Value} (h : Sw w wr n gl gw gh B Lv Wt V F)
    (hown : w5.ownsRow B 3 1 v' ((F n).length + 1) (ints (F n ++ [y]))) (hg : (wr.alloc o).grownBy w5 (V n).ownBlock) (hat : v'.ownBlock = (V n).ownBlock ∨ v'.ownBlock = some (wr.heap.size + 1)) :
    Sw w w5 n gl gw gh B Lv Wt (upd V n v') (upd F n (F n ++ [y])) := by
  have l0 := h.lt0
  have l1 := h.lt1
  have l2 := h.lt2
  have l3 := h.lt3
  have l4 := h.lt4
  have hrow : ∀ k, (V n).ownBlock = some k → B ≤ k := fun k e => ((h.fam.own n (by omega)).lt k e).1
  have hs := hg.size
  refine ⟨(h.lev.alloc o).kept hg (fun e => by have := hrow gl e.symm; omega), (h.wait.alloc o).kept hg (fun e => by have := hrow gw e.symm; omega), ?_, (h.fam.alloc o).push (by omega) hown hg hat (by simp), ?_, l0, l1, l2, l3, ?_⟩
  · rw [row_out]
    exact (h.hold.alloc o).kept hg (fun e => by have := hrow gh e.symm; omega)
  · exact (h.bel.alloc (by omega) o).grown hg (by simp; omega) (fun k e => by have := hrow k e; omega)
  · simp at hs
    omega

theorem Sw.pop {m : Nat} {p : Option Addr} {cap : Nat} {l : List Int} {y : Int} (h : Sw w wr n gl gw gh B Lv Wt V F)
    (hV : V n = .slice p (m + 1) cap) (hL : F n = l ++ [y]) : Sw w wr n gl gw gh B Lv Wt (upd V n (.slice p m cap)) (upd F n l) :=
  ⟨h.lev, h.wait, by rw [row_out]; exact h.hold, h.fam.pop (by omega) hV hL, h.bel, h.lt0, h.lt1, h.lt2, h.lt3, h.lt4⟩
end

end Go.Proofs.Qxb6600042aMods
