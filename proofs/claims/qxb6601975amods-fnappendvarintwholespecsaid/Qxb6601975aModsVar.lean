import Derived.Test.Qxb6601975aModsApp
import Derived.Test.Qxb6601975aModsPlain
namespace Go.Proofs.Qxb6601975aMods
open Go.RowKit

theorem wraps_u64 (n : Int) (h₀ : 0 ≤ n) (h₁ : n < 2 ^ 64) : IntKind.u64.wrap n = n := by
  simp [IntKind.wrap, IntKind.bits, IntKind.signed]
  omega

theorem u64_and127 (x : Int) (h0 : 0 ≤ x) (h1 : x < 18446744073709551616) : bits BinOp.and .u64 x 127 = x % 128 :=
  bits_mask .u64 64 (by decide) wraps_u64 7 (by decide) x h0 h1

theorem u8_or128 (x : Int) (h0 : 0 ≤ x) (h1 : x < 128) : bits BinOp.or .u8 x 128 = x + 128 := by
  have h : ∀ n : Fin 128, bits BinOp.or .u8 (n.val : Int) 128 = (n.val : Int) + 128 := by decide
  have := h ⟨x.toNat, by omega⟩
  rwa [show ((x.toNat : Nat) : Int) = x by omega] at this

theorem u8_and127 (x : Int) (h0 : 0 ≤ x) (h1 : x < 256) : bits BinOp.and .u8 x 127 = x % 128 :=
  bits_mask .u8 8 (by decide) wraps_u8 7 (by decide) x h0 h1

theorem u64_or (a y : Int) (h0 : 0 ≤ a) (h1 : a < 144115188075855872) (hy0 : 0 ≤ y) (hy1 : y < 128) : bits BinOp.or .u64 (a * 128) y = a * 128 + y :=
  bits_join .u64 64 (by decide) wraps_u64 7 (a * 128) y (by omega) (by omega) (by omega) hy0 hy1 (by omega)

theorem buf_nine (w : World) (x : Int) : Buf (w.alloc (.cells #[.int .u8 0, .int .u8 0, .int .u8 0, .int .u8 0, .int .u8 0, .int .u8 0, .int .u8 0, .int .u8 0, .int .u8 0, .int .u8 x] 32)) w.heap.size 32 10 9 [x] := by
  refine ⟨_, heap_new _ _, rfl, rfl, fun j hj => ?_, fun j hj => ?_⟩
  · obtain rfl : j = 0 := by simpa using hj
    rfl
  · have : j = 0 ∨ j = 1 ∨ j = 2 ∨ j = 3 ∨ j = 4 ∨ j = 5 ∨ j = 6 ∨ j = 7 ∨ j = 8 ∨ j = 9 := by omega
    rcases this with rfl | rfl | rfl | rfl | rfl | rfl | rfl | rfl | rfl | rfl
    all_goals exact ⟨_, rfl⟩

theorem own_below {w wr : World} {B : Nat} {v : Value} {n : Nat} {xs : List Value} (h : w.ownsRow B 5 1 v n xs) (hb : Below w.heap.size w wr) : wr.ownsRow B 5 1 v n xs := by
  obtain ⟨h1, h2⟩ := h
  refine ⟨h1, ?_⟩
  rcases h2 with h2 | ⟨g, cap, cur, hv, hg, hh, r⟩
  · exact .inl h2
  · refine .inr ⟨g, cap, cur, hv, hg, ?_, r⟩
    have : g < w.heap.size := by
      rcases Nat.lt_or_ge g w.heap.size with h' | h'
      · exact h'
      · rw [Array.getElem?_eq_none h'] at hh; cases hh
    rw [hb.block g this]
    exact hh

set_option maxHeartbeats 1000000 in
theorem varint_any (B : Nat) (v0 : Value) (n : Nat) (xs : List Int) (v : Nat) (w : World) (hv : v < 18446744073709551616) (hB : B ≤ w.heap.size) (hn : n ≤ 100000000) (hown : w.ownsRow B 5 1 v0 n (by8 xs)) :
    Calls Trym.prog 8 #[v0, .int .u64 v] w fun e w' => ∃ v', e = .returned v' ∧ w'.ownsRow B 5 1 v' (xs ++ enc v).length (by8 (xs ++ enc v)) ∧ Below B w w' := by
  have HO := hide hown
  have e1 := u64_and127 (v : Int) (by omega) (by omega)
  have HB1 := hide (buf_nine w ((v : Int) % 128))
  have hbel : Below w.heap.size w (w.alloc (.cells #[.int .u8 0, .int .u8 0, .int .u8 0, .int .u8 0, .int .u8 0, .int .u8 0, .int .u8 0, .int .u8 0, .int .u8 0, .int .u8 ((v : Int) % 128)] 32)) := (Below.refl _ _).alloc (Nat.le_refl _) _
  clear hown
  go_enter Trym.func8, Trym.ntmps8
  go_wp2
  go_loopw [1, 6] (fun m i wr => ∃ (k vj : Nat) (acc : List Int), k ≤ 9 ∧ i = .int .i64 k ∧ m = .int .u64 vj ∧ vj ≤ v ∧ Hid (vj < 128 ^ k) ∧ Hid (vd k vj ++ acc = enc v) ∧ Buf wr w.heap.size 32 10 k acc ∧ Below w.heap.size w wr) (fun _ i _ => (intOf i).toNat)
  case atStart => exact ⟨9, v / 128, [(v : Int) % 128], by omega, rfl, by go_num, by omega, hide (div_bd v hv), hide rfl, unhide HB1, hbel⟩
  case round =>
    obtain ⟨k, vj, acc, hk, rfl, rfl, hvj, HP, HD, hBuf, hbel'⟩ := hrel
    clear HB1 hbel e1
    have hsz := hbel'.size
    by_cases hz : vj = 0
    · subst hz
      have hacc := vd_zero k acc _ (unhide HD)
      have hsl := fun W => slice_buf w.heap.size k (k : Int) rfl (by omega) W
      have hlen : acc.length = 10 - k := by obtain ⟨_, _, _, h3, _⟩ := hBuf; omega
      have hsh := hBuf.shows
      rw [hlen] at hsh
      have HSH := hide hsh
      have HLE := hide hlen
      have HAC := hide hacc
      have HO2 := hide (own_below (unhide HO) hbel')
      have Hb2 := hide hBuf
      clear hsh hlen hacc hBuf
      go_wp2_with (at_builtin; refine wpList_app _ rfl (.tmp 26) (.tmp 28) rfl B _ _ xs rfl (unhide HO2) (some ⟨w.heap.size, k, none⟩) (10 - k) (10 - k) acc rfl (unhide HLE) (unhide HSH) (fun h => by cases h) (by omega) (by omega) ?_)
      intro v2 w2 hown2 hgrow2
      have hbel2 := bel_app (hbel'.mono hB) (unhide HO2) hgrow2 (by omega)
      have HO3 := hide (own_fix hown2)
      clear hown2 hgrow2
      go_wp2
      go_ret
      refine ⟨v2, rfl, ?_, hbel2⟩
      rw [← unhide HAC]
      exact unhide HO3
    · have hp := pow_step k vj hz (unhide HP)
      have hk1 := hp.1
      obtain ⟨z, hcell⟩ := hBuf.cell (k - 1) (by omega)
      have hfr := hBuf.frozen (k - 1)
      have hz' : (0 : Int) < vj := by omega
      have e1 := u64_and127 (vj : Int) (by omega) (by omega)
      have e2 := u8_or128 ((vj : Int) % 128) (by omega) (by omega)
      have HB2 := hide (hBuf.store hk1 ((vj : Int) % 128 + 128))
      have HP2 := hide hp.2
      clear hp hBuf
      go_wp2
      go_roundw
      case rel =>
        go_light
        exact ⟨k - 1, vj / 128, _, by omega, by go_num, by go_num, by omega, HP2, hide (vd_step k vj acc _ hk1 hz (unhide HD)), unhide HB2, hbel'.setCell (Nat.le_refl _) _⟩
      case measure => go_light; simp [intOf]; omega

end Go.Proofs.Qxb6601975aMods
