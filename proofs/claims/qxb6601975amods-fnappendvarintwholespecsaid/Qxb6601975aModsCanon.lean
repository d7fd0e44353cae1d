import Derived.Test.Qxb6601975aModsRead
import Derived.Deep.QuietTactic
import Derived.BigQuiet
namespace Go.Proofs.Qxb6601975aMods
open Go.RowKit

set_option maxHeartbeats 1000000 in
theorem varint_new (p : Option Addr) (n : Nat) (xs : List Int) (v : Nat) (w : World) (hv : v < 18446744073709551616) (hn : n ≤ 100000000) (hx : xs.length = n) (hp : p = none → n = 0) (hsx : Shows w p n xs) :
    Calls Trym.prog 8 #[.slice p n n, .int .u64 v] w fun e w' => ∃ v', e = .returned v' ∧ w'.ownsRow w.heap.size 5 1 v' (xs ++ enc v).length (by8 (xs ++ enc v)) ∧ Below w.heap.size w w' := by
  have HSX := hide hsx
  have HX := hide hx
  have HPN := hide hp
  have e1 := u64_and127 (v : Int) (by omega) (by omega)
  have HB1 := hide (buf_nine w ((v : Int) % 128))
  have hbel : Below w.heap.size w (w.alloc (.cells #[.int .u8 0, .int .u8 0, .int .u8 0, .int .u8 0, .int .u8 0, .int .u8 0, .int .u8 0, .int .u8 0, .int .u8 0, .int .u8 ((v : Int) % 128)] 32)) := (Below.refl _ _).alloc (Nat.le_refl _) _
  clear hsx hx hp
  go_enter Trym.func8, Trym.ntmps8
  go_wp2
  go_loopw [1, 6] (fun m i wr => ∃ (k vj : Nat) (acc : List Int), k ≤ 9 ∧ i = .int .i64 k ∧ m = .int .u64 vj ∧ vj ≤ v ∧ Hid (vj < 128 ^ k) ∧ Hid (vd k vj ++ acc = enc v) ∧ Buf wr w.heap.size 32 10 k acc ∧ Below w.heap.size w wr) (fun _ i _ => (intOf i).toNat)
  case atStart => exact ⟨9, v / 128, [(v : Int) % 128], by omega, rfl, by go_num, by omega, hide (div_bd v hv), hide rfl, unhide HB1, hbel⟩
  case round =>
    obtain ⟨k, vj, acc, hk, rfl, rfl, hvj, HP, HD, hBuf, hbel'⟩ := hrel
    clear HB1 hbel e1
    have hsz := hbel'.size
    by_cases hz : vj = 0
    · subst hz
      have hacc := vd_zero k acc _ (unhide HD)
      have hsl := fun W => slice_buf w.heap.size k (k : Int) rfl (by omega) W
      have hlen : acc.length = 10 - k := by obtain ⟨_, _, _, h3, _⟩ := hBuf; omega
      have hsh := hBuf.shows
      rw [hlen] at hsh
      have HSH := hide hsh
      have HLE := hide hlen
      have HAC := hide hacc
      have HSX2 := hide ((unhide HSX).below hbel')
      have Hb2 := hide hBuf
      clear hsh hlen hacc hBuf
      go_wp2_with (at_builtin; refine wpList_app_new _ rfl (.tmp 26) (.tmp 28) rfl p n n xs rfl (unhide HX) (fun h => ⟨unhide HPN h, unhide HPN h⟩) (unhide HSX2) ⟨w.heap.size, k, none⟩ (10 - k) (10 - k) acc rfl (unhide HLE) (unhide HSH) (by omega) (by omega) ?_)
      intro v2 w2 hown2 hgrow2
      have hbel2 : Below w.heap.size w w2 := hbel'.grown hgrow2 hsz (fun k h => by cases h)
      have HO3 := hide (own_fix (ownsRow_base hown2 hsz))
      clear hown2 hgrow2
      go_wp2
      go_ret
      refine ⟨v2, rfl, ?_, hbel2⟩
      rw [← unhide HAC]
      exact unhide HO3
    · have hp := pow_step k vj hz (unhide HP)
      have hk1 := hp.1
      obtain ⟨z, hcell⟩ := hBuf.cell (k - 1) (by omega)
      have hfr := hBuf.frozen (k - 1)
      have hz' : (0 : Int) < vj := by omega
      have e1 := u64_and127 (vj : Int) (by omega) (by omega)
      have e2 := u8_or128 ((vj : Int) % 128) (by omega) (by omega)
      have HB2 := hide (hBuf.store hk1 ((vj : Int) % 128 + 128))
      have HP2 := hide hp.2
      clear hp hBuf
      go_wp2
      go_roundw
      case rel =>
        go_light
        exact ⟨k - 1, vj / 128, _, by omega, by go_num, by go_num, by omega, HP2, hide (vd_step k vj acc _ hk1 hz (unhide HD)), unhide HB2, hbel'.setCell (Nat.le_refl _) _⟩
      case measure => go_light; simp [intOf]; omega


set_option maxHeartbeats 2000000 in
theorem canon_any (b o L c v : Nat) (w : World) (hv : v < 18446744073709551616) (hL : (enc v).length = L)
    (hc : ∀ i, i < L → w.cell? ⟨b, o + i, none⟩ = some (.int .u8 ((enc v).getD i 0))) :
    Calls Trym.prog 9 #[.slice (some ⟨b, o, none⟩) L c, .int .u64 v] w fun e w' => e = .returned (.bool true) ∧ w' = w := by
  have hp := enc_pos v
  have ht := enc_ten v hv
  rw [hL] at hp ht
  have HL := hide hL
  have Hc := hide hc
  obtain ⟨tl, htl⟩ : ∃ t, t = (enc v).getD (L - 1) 0 := ⟨_, rfl⟩
  have hcl : w.cell? ⟨b, o + (L - 1), none⟩ = some (.int .u8 tl) := by rw [htl]; exact hc (L - 1) (by omega)
  have hlow : tl < 128 := by rw [htl, ← hL]; exact enc_low v
  have hl1 : ¬ (L : Int) < 1 := by omega
  have hl10 : ¬ (10 : Int) < L := by omega
  obtain ⟨t0, ht0⟩ : ∃ t, t = (enc v).getD 0 0 := ⟨_, rfl⟩
  have hc0 : w.cell? ⟨b, o, none⟩ = some (.int .u8 t0) := by rw [ht0]; simpa using hc 0 (by omega)
  have hhead : 1 < L → (t0 == 128) = false := fun h => beq_eq_false_iff_ne.2 (by rw [ht0]; exact enc_head v hv (by omega))
  have Hhead := hide hhead
  clear hL hc htl ht0 hhead
  go_enter Trym.func9, Trym.ntmps9
  go_wp2
  go_loopw [6] (fun i wr => ∃ j : Nat, j ≤ L - 1 ∧ i = .int .i64 j ∧ wr = w) (fun i _ => L - 1 - (intOf i).toNat)
  case atStart => exact ⟨0, Nat.zero_le _, rfl, rfl⟩
  case round =>
    obtain ⟨j, hj, rfl, rfl⟩ := hrel
    by_cases hlt : j < L - 1
    · obtain ⟨t, htd⟩ : ∃ t, t = (enc v).getD j 0 := ⟨_, rfl⟩
      have hcell : wr.cell? ⟨b, o + j, none⟩ = some (.int .u8 t) := by rw [htd]; exact unhide Hc j (by omega)
      have hhi : ¬ t < 128 := by
        have := enc_high v j (by rw [unhide HL]; exact hlt)
        rw [← htd] at this
        omega
      clear htd
      have d1 : (j : Int) < (L : Int) - 1 := by omega
      go_wp2
      go_roundw
      case rel => exact ⟨j + 1, by omega, by go_num, trivial⟩
      case measure => go_light; simp [intOf]; omega
    · have d1 : ¬ (j : Int) < (L : Int) - 1 := by omega
      have hcase : (1 < L ∧ (1 : Int) < L ∧ (t0 == 128) = false) ∨ ¬ (1 : Int) < L := by
        by_cases h : 1 < L
        · exact .inl ⟨h, by omega, unhide Hhead h⟩
        · exact .inr (by omega)
      rcases hcase with ⟨q1, q2, q3⟩ | q2
      all_goals
        go_wp2
        go_loopw [7, 8] (fun a i wx => ∃ k u : Nat, k ≤ L ∧ i = .int .i64 k ∧ a = .int .u64 u ∧ wx = wr ∧ Hid (u = rd v k)) (fun _ i _ => L - (intOf i).toNat)
        case atStart => exact ⟨0, 0, Nat.zero_le _, rfl, rfl, rfl, hide (rd_zero v hv).symm⟩
        case round =>
          obtain ⟨k, u, hk, rfl, rfl, rfl, HU⟩ := hrel
          by_cases hlt2 : k < L
          · have hu : u < 144115188075855872 := by rw [unhide HU]; exact rd_small v k hv (by rw [unhide HL]; exact hlt2)
            have hstep := rd_step v k (by rw [unhide HL]; exact hlt2)
            rw [← unhide HU] at hstep
            have hr := enc_at v k (by rw [unhide HL]; exact hlt2)
            obtain ⟨t, htd⟩ : ∃ t, t = (enc v).getD k 0 := ⟨_, rfl⟩
            have hcell := unhide Hc k hlt2
            rw [← htd] at hcell
            rw [← htd] at hstep hr
            obtain ⟨hr0, hr1⟩ := hr
            have e1 := u8_and127 t hr0 hr1
            have e2 := u64_or (u : Int) (t % 128) (by omega) (by omega) (by omega) (by omega)
            have e3 : ((u : Int) / 144115188075855872 != 0) = false := by
              rw [show (u : Int) / 144115188075855872 = 0 by omega]; rfl
            have HS := hide hstep
            clear htd hstep
            go_wp2
            go_roundw
            case rel =>
              go_light
              refine ⟨k + 1, u * 128 + (t % 128).toNat, by omega, by go_num, by go_num, trivial, hide ?_⟩
              have h1 := unhide HS
              omega
            case measure => go_light; simp [intOf]; omega
          · have hkL : k = (enc v).length := by rw [unhide HL]; omega
            have huv : u = v := by rw [unhide HU, hkL, rd_full]
            have heq : ((u : Int) == (v : Int)) = true := beq_iff_eq.2 (by omega)
            clear hkL huv
            go_wp2
            go_ret
            exact ⟨rfl, rfl⟩

end Go.Proofs.Qxb6601975aMods
