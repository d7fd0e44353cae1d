import Derived.Test.Qxb6601444aModsTrim
import Derived.Test.Qxb6601444aModsPlain
namespace Go.Proofs.Qxb6601444aMods
open Go.RowKit

/-- A block of N cells of bytes whose tail, from i on, holds xs. -/
def Buf (w : World) (g t N i : Nat) (xs : List Int) : Prop :=
  ∃ cur : Array Value, w.heap[g]? = some (.cells cur t (0, 0)) ∧ cur.size = N ∧ i + xs.length = N ∧ (∀ j, j < xs.length → cur[i + j]? = some (.int .u8 (xs.getD j 0))) ∧ ∀ j, j < N → ∃ z, cur[j]? = some (.int .u8 z)

theorem Buf.cell {w : World} {g t N i : Nat} {xs : List Int} (h : Buf w g t N i xs) (j : Nat) (hj : j < N) : ∃ z, w.cell? ⟨g, j, none⟩ = some (.int .u8 z) := by
  obtain ⟨cur, h1, h2, h3, h4, h5⟩ := h
  obtain ⟨z, hz⟩ := h5 j hj
  exact ⟨z, by rw [cell_of_row w g j cur t (0, 0) h1, hz]⟩

theorem Buf.frozen {w : World} {g t N i : Nat} {xs : List Int} (h : Buf w g t N i xs) (j : Nat) : w.frozen? ⟨g, j, none⟩ = false := by
  obtain ⟨cur, h1, h2, h3, h4, h5⟩ := h
  simp [World.frozen?, h1]

theorem Buf.shows {w : World} {g t N i : Nat} {xs : List Int} (h : Buf w g t N i xs) : Shows w (some ⟨g, i, none⟩) xs.length xs := by
  obtain ⟨cur, h1, h2, h3, h4, h5⟩ := h
  refine .inr ⟨g, i, rfl, ?_, fun j hj => ?_⟩
  · rcases Nat.lt_or_ge g w.heap.size with h' | h'
    · exact h'
    · rw [Array.getElem?_eq_none h'] at h1; cases h1
  · rw [cell_of_row w g (i + j) cur t (0, 0) h1, h4 j hj]

theorem Buf.store {w : World} {g t N i : Nat} {xs : List Int} (h : Buf w g t N i xs) (hi : 1 ≤ i) (d : Int) : Buf (w.setCell ⟨g, i - 1, none⟩ (.int .u8 d)) g t N (i - 1) (d :: xs) := by
  obtain ⟨cur, h1, h2, h3, h4, h5⟩ := h
  refine ⟨cur.setIfInBounds (i - 1) (.int .u8 d), heap_setCell_same w g (i - 1) cur t _ h1, by simpa using h2, by simp; omega, fun j hj => ?_, fun j hj => ?_⟩
  · cases j with
    | zero => simp [Array.getElem?_setIfInBounds, h2]; omega
    | succ j =>
      rw [Array.getElem?_setIfInBounds, if_neg (by omega), show i - 1 + (j + 1) = i + j by omega, h4 j (by simpa using hj)]
      simp
  · rw [Array.getElem?_setIfInBounds]
    by_cases h : i - 1 = j
    · rw [if_pos h, if_pos (by omega)]; exact ⟨d, rfl⟩
    · rw [if_neg h]; exact h5 j hj

theorem heap_new (w : World) (o : Obj) : (w.alloc o).heap[w.heap.size]? = some o := by
  show (w.heap.push o)[w.heap.size]? = _
  simp

theorem buf_new (w : World) : Buf (w.alloc (.cells #[.int .u8 0, .int .u8 0, .int .u8 0, .int .u8 0, .int .u8 0, .int .u8 0, .int .u8 0, .int .u8 0, .int .u8 0, .int .u8 0, .int .u8 0, .int .u8 0, .int .u8 0, .int .u8 0, .int .u8 0, .int .u8 0, .int .u8 0, .int .u8 0, .int .u8 0, .int .u8 0, .int .u8 0] 32)) w.heap.size 32 21 21 [] := by
  refine ⟨_, heap_new _ _, rfl, rfl, fun j hj => by simp at hj, fun j hj => ⟨0, ?_⟩⟩
  show (List.replicate 21 (Value.int .u8 0)).toArray[j]? = _
  rw [List.getElem?_toArray, List.getElem?_replicate, if_pos hj]

theorem ownsRow_base {w : World} {base base' : Nat} {e : TypeId} {size : Nat} {v : Value} {n : Nat} {xs : List Value} (h : w.ownsRow base e size v n xs) (hb : base' ≤ base) : w.ownsRow base' e size v n xs := by
  obtain ⟨h1, h2⟩ := h
  refine ⟨h1, ?_⟩
  rcases h2 with h2 | ⟨g, cap, cur, hv, hg, r⟩
  · exact .inl h2
  · exact .inr ⟨g, cap, cur, hv, Nat.le_trans hb hg, r⟩

theorem slice_buf (g i : Nat) (L : Int) (hL : L = i) (hi : i < 21) (W : World) :
    (Instr.sliceAt 32 (.pointer (some ⟨g, 0, none⟩)) (some (.int .i64 L)) none none).run Trym.prog W = .ok (.slice (some ⟨g, i, none⟩) (21 - i) (21 - i)) W := by
  subst hL
  have ht : Trym.prog.underlying 32 = some (.array (Trym.prog.arrayLen 32) (Trym.prog.elem 32)) := by kernel_rfl
  have hl : Trym.prog.arrayLen 32 = 21 := by kernel_rfl
  have he : Trym.prog.elem 32 = 5 := by kernel_rfl
  obtain ⟨i0, h0, hz0, hz1, hz2⟩ := info_parts Trym.info5
  rw [run_sliceAt_array_l (P := Trym.prog) W 32 ⟨g, 0, none⟩ ht .i64 (i : Int) (by omega) (by rw [hl]; omega), he, hl]
  have hne : ¬ 21 = i := by omega
  simp [sizeOf, typeInfo, h0, hz1, slicedAt, hne, Addr.add_lit]

set_option maxHeartbeats 1000000 in
theorem render_any (neg : Bool) (mag : Nat) (w : World) (hm : mag < 18446744073709551616) :
    Calls Trym.prog 10 #[.bool neg, .int .u64 mag] w fun e w' => ∃ v, e = .returned v ∧ w'.ownsRow w.heap.size 5 1 v (render neg mag).length ((render neg mag).map (Value.int .u8)) ∧ Below w.heap.size w w' := by
  have hbuf := buf_new w
  have hbel : Below w.heap.size w (w.alloc (.cells #[.int .u8 0, .int .u8 0, .int .u8 0, .int .u8 0, .int .u8 0, .int .u8 0, .int .u8 0, .int .u8 0, .int .u8 0, .int .u8 0, .int .u8 0, .int .u8 0, .int .u8 0, .int .u8 0, .int .u8 0, .int .u8 0, .int .u8 0, .int .u8 0, .int .u8 0, .int .u8 0, .int .u8 0] 32)) := (Below.refl _ _).alloc (Nat.le_refl _) _
  go_enter Trym.func10, Trym.ntmps10
  go_wp2
  go_loopw [6, 7] (fun i m wr => ∃ (k mj : Nat) (acc : List Int), 2 ≤ k ∧ k ≤ 21 ∧ i = .int .i64 k ∧ m = .int .u64 mj ∧ mj ≤ mag ∧ Hid (mj < 10 ^ (k - 1)) ∧ Hid (digs (k - 1) mj ++ acc = digs 20 mag) ∧ Buf wr w.heap.size 32 21 k acc ∧ Below w.heap.size w wr) (fun i _ _ => (intOf i).toNat)
  case atStart => exact ⟨21, mag, [], by omega, by omega, rfl, rfl, Nat.le_refl _, hide (by omega), hide (by simp), hbuf, hbel⟩
  case round =>
    obtain ⟨k, mj, acc, hk1, hk2, rfl, rfl, hmj, HP, HD, hB, hbel'⟩ := hrel
    clear hbuf hbel
    obtain ⟨z, hcell⟩ := hB.cell (k - 1) (by omega)
    have hfr := hB.frozen (k - 1)
    have HB := hide (hB.store (by omega) (48 + (mj : Int) % 10))
    by_cases hz : mj / 10 = 0
    · have hz' : ((mj : Int) / 10 == 0) = true := beq_iff_eq.2 (by omega)
      have hl := digs_last k mj acc _ hk1 hz (unhide HD)
      rw [hl] at HB
      have hsz : w.heap.size ≤ wr.heap.size := hbel'.size
      clear hl
      by_cases hn : neg = true ∧ mag ≠ 0
      · have HR := hide (render_yes hn)
        obtain ⟨rfl, hn2⟩ := hn
        have hn3 : ((mag : Int) != 0) = true := by rw [bne_iff_ne]; omega
        obtain ⟨z2, hcell2⟩ := (unhide HB).cell (k - 1 - 1) (by omega)
        have hfr2 := (unhide HB).frozen (k - 1 - 1)
        have HB2 := hide ((unhide HB).store (by omega) 45)
        have hsl := fun W => slice_buf w.heap.size (k - 1 - 1) ((k : Int) - 1 - 1) (by omega) (by omega) W
        have hlen : (45 :: digs 20 mag).length = 21 - (k - 1 - 1) := by obtain ⟨_, _, _, h3, _⟩ := unhide HB2; omega
        have HC := hide (clone_any (some ⟨w.heap.size, k - 1 - 1, none⟩) (21 - (k - 1 - 1)) (21 - (k - 1 - 1)) (45 :: digs 20 mag) ((wr.setCell ⟨w.heap.size, k - 1, none⟩ (.int .u8 (48 + (mj : Int) % 10))).setCell ⟨w.heap.size, k - 1 - 1, none⟩ (.int .u8 45)) hlen (by omega) (fun h => by cases h) (by have := (unhide HB2).shows; rwa [hlen] at this))
        have Hlen := hide hlen
        clear hlen hn2
        go_wp2_with fail
        refine (unhide HC).mono ?_
        rintro e w2 ⟨v, rfl, hown, hb2⟩
        go_wp2
        go_ret
        refine ⟨v, rfl, ?_, ?_⟩
        · rw [unhide HR, unhide Hlen]
          exact ownsRow_base hown (by simpa using hsz)
        · exact ((hbel'.setCell (Nat.le_refl _) _).setCell (Nat.le_refl _) _).trans (hb2.mono (by simpa using hsz))
      · have HR := hide (render_no hn)
        have hsl := fun W => slice_buf w.heap.size (k - 1) ((k : Int) - 1) (by omega) (by omega) W
        have hlen : (digs 20 mag).length = 21 - (k - 1) := by obtain ⟨_, _, _, h3, _⟩ := unhide HB; omega
        have HC := hide (clone_any (some ⟨w.heap.size, k - 1, none⟩) (21 - (k - 1)) (21 - (k - 1)) (digs 20 mag) (wr.setCell ⟨w.heap.size, k - 1, none⟩ (.int .u8 (48 + (mj : Int) % 10))) hlen (by omega) (fun h => by cases h) (by have := (unhide HB).shows; rwa [hlen] at this))
        have Hlen := hide hlen
        clear hlen
        have hn2 : neg = false ∨ (neg = true ∧ ((mag : Int) != 0) = false) := by
          cases neg with
          | false => exact .inl rfl
          | true =>
            refine .inr ⟨rfl, ?_⟩
            have : mag = 0 := by
              rcases Nat.eq_zero_or_pos mag with h | h
              · exact h
              · exact absurd ⟨rfl, by omega⟩ hn
            simp [this]
        clear hn
        rcases hn2 with rfl | ⟨rfl, hn3⟩
        all_goals
          go_wp2_with fail
          refine (unhide HC).mono ?_
          rintro e w2 ⟨v, rfl, hown, hb2⟩
          go_wp2
          go_ret
          refine ⟨v, rfl, ?_, ?_⟩
          · rw [unhide HR, unhide Hlen]
            exact ownsRow_base hown (by simpa using hsz)
          · exact (hbel'.setCell (Nat.le_refl _) _).trans (hb2.mono (by simpa using hsz))
    · have hz' : ((mj : Int) / 10 == 0) = false := beq_eq_false_iff_ne.2 (by omega)
      go_wp2
      go_roundw
      case rel =>
        have hp := pow_step k mj hk1 hz (unhide HP)
        exact ⟨k - 1, mj / 10, _, hp.1, by omega, by go_num, by go_num, by omega, hide hp.2, hide (digs_step k mj acc _ hk1 hz (unhide HD)), unhide HB, hbel'.setCell (Nat.le_refl _) _⟩
      case measure => simp [intOf]; omega

end Go.Proofs.Qxb6601444aMods
