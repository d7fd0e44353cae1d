import Derived.Test.Qxb6600042aModsThru
import Derived.Test.Qxb6600042aModsWalked
namespace Go.Proofs.Qxb6600042aMods
open Go.RowKit

set_option maxHeartbeats 1000000 in
theorem loop_zero (gt : Nat) (p : Option Addr) (c : Nat) (w : World) (hgt : gt < w.heap.size) (ht : w.cell? ⟨gt, 0, none⟩ = some (.slice p 0 c)) :
    Calls Trym.prog 19 #[.pointer (some ⟨gt, 0, none⟩)] w fun e w' => e = .returned (.slice none 0 0) ∧ Below w.heap.size w w' := by
  obtain ⟨i0, hi, hz0, hz1, hz2⟩ := info_parts Trym.info3
  go_enter Trym.func19, Trym.ntmps19
  go_wp2_with (at_make; refine wpList_make_full _ rfl _ _ 27 rfl w.heap.size 3 i0 (.int .i64 0) 1 Trym.underlying27 hi hz0 hz1 .i64 .i64 _ _ 0 rfl rfl rfl rfl ?c1 ?c2 ?c3 ?_)
  case c1 => simp
  case c2 => unfold maxLen; omega
  case c3 => exact Nat.le_refl _
  intro w1 hown hgrow
  have hbel : Below w.heap.size w w1 := (Below.refl _ _).grown hgrow (Nat.le_refl _) (fun k h => by cases h)
  have ht1 : w1.cell? ⟨gt, 0, none⟩ = some (.slice p 0 c) := (hbel.cell (by exact hgt)).trans ht
  clear hown hgrow
  go_wp2
  refine wp_loop_rounds 1 ?_
  rw [rounds_succ]
  go_wp2
  go_ret
  exact ⟨rfl, hbel⟩

set_option maxHeartbeats 4000000 in
theorem loop_some (gt b o n c : Nat) (P : List Int) (w : World) (hP : OkP P) (hn : P.length = n) (h1 : 1 ≤ n) (hnm : n ≤ 1048576) (hgt : gt < w.heap.size) (hb : b < w.heap.size)
    (ht : w.cell? ⟨gt, 0, none⟩ = some (.slice (some ⟨b, o, none⟩) n c)) (hc : ∀ i, i < n → w.cell? ⟨b, o + i, none⟩ = some (.int .i64 (P.getD i 0))) :
    Calls Trym.prog 19 #[.pointer (some ⟨gt, 0, none⟩)] w fun e w' => Below w.heap.size w w' ∧
      ((e = .returned (.slice none 0 0) ∧ ∀ j : Nat, j < n → Reach P (j : Int)) ∨ ∃ v l, e = .returned v ∧ IsLoop P l ∧ l.length ≤ n ∧ v ≠ .slice none 0 0 ∧ w'.ownsRow w.heap.size 3 1 v l.length (ints l)) := by
  have HP := hide hP
  have Hn := hide hn
  have Hc := hide hc
  clear hP hn hc
  obtain ⟨i0, hi, hz0, hz1, hz2⟩ := info_parts Trym.info3
  go_enter Trym.func19, Trym.ntmps19
  go_wp2_with (at_make; refine wpList_make_full _ rfl _ _ 27 rfl w.heap.size 3 i0 (.int .i64 0) 1 Trym.underlying27 hi hz0 hz1 .i64 .i64 _ _ n rfl rfl rfl rfl ?c1 ?c2 ?c3 ?_)
  case c1 => rw [hz2]; omega
  case c2 => unfold maxLen; omega
  case c3 => exact Nat.le_refl _
  intro w1 hown hgrow
  have hbel : Below w.heap.size w w1 := (Below.refl _ _).grown hgrow (Nat.le_refl _) (fun k h => by cases h)
  have ht1 : w1.cell? ⟨gt, 0, none⟩ = some (.slice (some ⟨b, o, none⟩) n c) := (hbel.cell (by exact hgt)).trans ht
  have hblk : IsBlk w1 w.heap.size 3 (ints (List.replicate P.length 0)) := by
    have h2 := blk_of_own hown
    have e : (madeCells #[Value.int .i64 0] n).toList = ints (List.replicate P.length 0) := by
      rw [toList_madeCells_one, unhide Hn]; simp [ints]
    rw [e] at h2
    exact h2
  have HB := hide hblk
  clear hown hgrow hblk hi hz0 hz1 hz2
  go_wp2
  go_loopg [17] n (fun gk s wr => ∃ (i : Nat) (W : List Int), i + gk = n ∧ s = .int .i64 i ∧ IsBlk wr w.heap.size 3 (ints W) ∧ Below w.heap.size w wr ∧ Hid (Outer P W i))
  case atStart => exact ⟨0, _, by omega, rfl, unhide HB, hbel, hide (outer_start P)⟩
  case round =>
    obtain ⟨i, W0, hik, rfl, hblk, hbel', HO⟩ := hrel
    clear HB hbel
    by_cases hlt : i < n
    · have hlt' : (i : Int) < n := by omega
      have HBK := hide hblk
      clear hblk
      go_wp2
      go_loopg [5] n (fun gk a wx => ∃ (k : Nat) (W : List Int) (x : Int), k + gk = n ∧ a = .int .i64 x ∧ x < n ∧ IsBlk wx w.heap.size 3 (ints W) ∧ Below w.heap.size w wx ∧ Hid (x = upn P k (i : Int)) ∧ Hid (Path P W0 W i k))
      case atStart => exact ⟨0, W0, (i : Int), by omega, rfl, hlt', unhide HBK, hbel', hide rfl, hide (path_start (unhide HO))⟩
      case round =>
        obtain ⟨k, W, x, hkn, rfl, hxn, hblk, hbelx, HX, HPA⟩ := hrel
        have hbelx' := hbelx
        clear hbelx'
        have hWl := (unhide HPA).len
        have htx := (hbelx.cell (p := ⟨gt, 0, none⟩) (by exact hgt)).trans ht
        by_cases hx0 : x < 0
        · have hreach := path_reach (unhide HO) (unhide HPA) (.inl (by rw [← unhide HX]; exact hx0))
          have HBX := hide hblk
          clear hblk hWl
          go_wp2
          go_loopg [5] k (fun gk a wy => ∃ (m : Nat) (V : List Int) (y : Int), m + gk = k ∧ a = .int .i64 y ∧ y < n ∧ IsBlk wy w.heap.size 3 (ints V) ∧ Below w.heap.size w wy ∧ Hid (y = upn P m (i : Int)) ∧ Hid (Back P W0 V i k m))
          case atStart => exact ⟨0, W, (i : Int), by omega, rfl, hlt', unhide HBX, hbelx, hide rfl, hide (back_start (unhide HPA))⟩
          case round =>
            obtain ⟨m, V, y, hmk, rfl, hyn, hblkv, hbelv, HY, HBA⟩ := hrel
            have hVl := (unhide HBA).len
            by_cases hmlt : m < k
            · have hrg := (unhide HPA).rng m hmlt
              rw [← unhide HY] at hrg
              obtain ⟨r, rfl⟩ := Int.eq_ofNat_of_zero_le hrg.1
              have hrn : r < n := by omega
              have hV2 := (unhide HBA).todo m (Nat.le_refl _) hmlt
              rw [← unhide HY, Int.toNat_natCast] at hV2
              have hcv : wr.cell? ⟨w.heap.size, r, none⟩ = some (.int .i64 (2 + (i : Int))) := by
                rw [hblkv.cell r, ints_get _ _ (by rw [hVl, unhide Hn]; exact hrn), hV2]
              have hfv := hblkv.frozen r
              have hcp := (hbelv.cell (p := ⟨b, o + r, none⟩) (by exact hb)).trans (unhide Hc r hrn)
              have htv := (hbelv.cell (p := ⟨gt, 0, none⟩) (by exact hgt)).trans ht
              obtain ⟨z, hz⟩ : ∃ z, z = P.getD r 0 := ⟨_, rfl⟩
              rw [← hz] at hcp
              have hzn : z < n := by
                have := unhide HP r (by rw [unhide Hn]; exact hrn)
                rw [← hz, unhide Hn] at this
                exact this
              have HZ := hide hz
              have HS := hide (hblkv.set r (.int .i64 1))
              have HBV := hide hblkv
              have d1 : (0 : Int) ≤ r := by omega
              have d2 : (r : Int) < n := by omega
              have d3 : ((2 + (i : Int)) == (2 + (i : Int))) = true := by simp
              have hne : gt ≠ w.heap.size := by omega
              have hne2 : b ≠ w.heap.size := by omega
              clear hrg hV2 hz hblkv hVl
              go_wp2
              go_roundg (k - (m + 1))
              case measure => go_light; omega
              case rel =>
                go_light
                refine ⟨m + 1, V.set r 1, z, by omega, rfl, hzn, ?_, hbelv.setCell (Nat.le_refl _) _, hide ?_, hide (back_step (unhide HPA) (unhide HBA) hmlt (unhide HY))⟩
                · have := unhide HS
                  rw [ints_set] at this
                  exact this
                · rw [unhide HZ, upn_succ, ← unhide HY, stp_nat]
            · obtain rfl : m = k := by omega
              have hend := back_end (unhide HO) (unhide HPA) (unhide HBA) (by rw [unhide Hn]; exact hlt) hreach
              have HEN := hide hend
              have hyneg : y < 0 := by rw [unhide HY, ← unhide HX]; exact hx0
              have HBV := hide hblkv
              clear hend hreach hblkv hVl
              go_wp2
              go_roundg (n - i - 1)
              case measure => go_light; omega
              case rel =>
                go_light
                exact ⟨i + 1, V, by omega, by go_num, unhide HBV, hbelv, HEN⟩
        · obtain ⟨q, rfl⟩ := Int.eq_ofNat_of_zero_le (show 0 ≤ x by omega)
          have hqn : q < n := by omega
          obtain ⟨wq, hwq⟩ : ∃ z, z = W.getD q 0 := ⟨_, rfl⟩
          have hcq : wr.cell? ⟨w.heap.size, q, none⟩ = some (.int .i64 wq) := by
            rw [hblk.cell q, ints_get _ _ (by rw [hWl, unhide Hn]; exact hqn), ← hwq]
          have hfq := hblk.frozen q
          have d1 : (0 : Int) ≤ q := by omega
          have d2 : (q : Int) < n := by omega
          by_cases hw0 : wq = 0
          · have hstep := path_step (unhide HPA) (unhide HX) (by rw [unhide Hn]; exact hqn) (by rw [← hwq]; exact hw0)
            have hle := hstep.le
            rw [unhide Hn] at hle
            subst hw0
            have hcp := (hbelx.cell (p := ⟨b, o + q, none⟩) (by exact hb)).trans (unhide Hc q hqn)
            obtain ⟨z, hz⟩ : ∃ z, z = P.getD q 0 := ⟨_, rfl⟩
            rw [← hz] at hcp
            have hzn : z < n := by
              have := unhide HP q (by rw [unhide Hn]; exact hqn)
              rw [← hz, unhide Hn] at this
              exact this
            have HZ := hide hz
            have HS := hide (hblk.set q (.int .i64 (2 + (i : Int))))
            have HST := hide hstep
            have HBX := hide hblk
            have hne : gt ≠ w.heap.size := by omega
            have hne2 : b ≠ w.heap.size := by omega
            clear hwq hz hstep hblk hWl hx0
            go_wp2
            go_roundg (n - (k + 1))
            case measure => go_light; omega
            case rel =>
              go_light
              refine ⟨k + 1, W.set q (2 + (i : Int)), z, by omega, rfl, hzn, ?_, hbelx.setCell (Nat.le_refl _) _, hide ?_, HST⟩
              · have := unhide HS
                rw [ints_set] at this
                exact this
              · rw [unhide HZ, upn_succ, ← unhide HX, stp_nat]
          · have hw0' : (wq == 0) = false := beq_eq_false_iff_ne.2 hw0
            by_cases hw2 : wq = 2 + (i : Int)
            · obtain ⟨pp, hcyc⟩ := path_cyc (unhide HO) (unhide HPA) (unhide HX) (by rw [unhide Hn]; exact hqn) (by rw [← hwq]; exact hw2)
              have hw2' : (wq == 2 + (i : Int)) = true := beq_iff_eq.2 hw2
              have HT := hide (thru_any gt b o n c P q pp wr (unhide HP) (unhide Hn) hnm hqn hcyc (Nat.lt_of_lt_of_le hgt hbelx.size) (Nat.lt_of_lt_of_le hb hbelx.size) htx (fun j hj => (hbelx.cell (p := ⟨b, o + j, none⟩) (by exact hb)).trans (unhide Hc j hj)))
              have hsz := hbelx.size
              clear hwq hcyc hblk hWl hx0 hw2 hw0
              go_wp2_with fail
              refine (unhide HT).mono ?_
              rintro e w5 ⟨v, l, rfl, q1, q2, q3, q4, q5⟩
              have Q1 := hide q1
              have Q4 := hide q4
              have Q3 := hide q3
              clear q1 q4 q3
              go_wp2
              go_ret
              exact ⟨hbelx.trans (q5.mono hsz), .inr ⟨v, l, rfl, unhide Q1, q2, unhide Q3, ownsRow_base (unhide Q4) hsz⟩⟩
            · have hreach := path_reach (unhide HO) (unhide HPA) (.inr ⟨q, unhide HX, by rw [unhide Hn]; exact hqn, by rw [← hwq]; exact hw0, by rw [← hwq]; exact hw2⟩)
              have hw2' : (wq == 2 + (i : Int)) = false := beq_eq_false_iff_ne.2 hw2
              have HBX := hide hblk
              clear hwq hblk hWl hx0 hw2 hw0
              go_wp2
              go_loopg [5] k (fun gk a wy => ∃ (m : Nat) (V : List Int) (y : Int), m + gk = k ∧ a = .int .i64 y ∧ y < n ∧ IsBlk wy w.heap.size 3 (ints V) ∧ Below w.heap.size w wy ∧ Hid (y = upn P m (i : Int)) ∧ Hid (Back P W0 V i k m))
              case atStart => exact ⟨0, W, (i : Int), by omega, rfl, hlt', unhide HBX, hbelx, hide rfl, hide (back_start (unhide HPA))⟩
              case round =>
                obtain ⟨m, V, y, hmk, rfl, hyn, hblkv, hbelv, HY, HBA⟩ := hrel
                have hVl := (unhide HBA).len
                by_cases hmlt : m < k
                · have hrg := (unhide HPA).rng m hmlt
                  rw [← unhide HY] at hrg
                  obtain ⟨r, rfl⟩ := Int.eq_ofNat_of_zero_le hrg.1
                  have hrn : r < n := by omega
                  have hV2 := (unhide HBA).todo m (Nat.le_refl _) hmlt
                  rw [← unhide HY, Int.toNat_natCast] at hV2
                  have hcv : wr.cell? ⟨w.heap.size, r, none⟩ = some (.int .i64 (2 + (i : Int))) := by
                    rw [hblkv.cell r, ints_get _ _ (by rw [hVl, unhide Hn]; exact hrn), hV2]
                  have hfv := hblkv.frozen r
                  have hcp := (hbelv.cell (p := ⟨b, o + r, none⟩) (by exact hb)).trans (unhide Hc r hrn)
                  have htv := (hbelv.cell (p := ⟨gt, 0, none⟩) (by exact hgt)).trans ht
                  obtain ⟨z, hz⟩ : ∃ z, z = P.getD r 0 := ⟨_, rfl⟩
                  rw [← hz] at hcp
                  have hzn : z < n := by
                    have := unhide HP r (by rw [unhide Hn]; exact hrn)
                    rw [← hz, unhide Hn] at this
                    exact this
                  have HZ := hide hz
                  have HS := hide (hblkv.set r (.int .i64 1))
                  have HBV := hide hblkv
                  have d1 : (0 : Int) ≤ r := by omega
                  have d2 : (r : Int) < n := by omega
                  have d3 : ((2 + (i : Int)) == (2 + (i : Int))) = true := by simp
                  have hne : gt ≠ w.heap.size := by omega
                  have hne2 : b ≠ w.heap.size := by omega
                  clear hrg hV2 hz hblkv hVl
                  go_wp2
                  go_roundg (k - (m + 1))
                  case measure => go_light; omega
                  case rel =>
                    go_light
                    refine ⟨m + 1, V.set r 1, z, by omega, rfl, hzn, ?_, hbelv.setCell (Nat.le_refl _) _, hide ?_, hide (back_step (unhide HPA) (unhide HBA) hmlt (unhide HY))⟩
                    · have := unhide HS
                      rw [ints_set] at this
                      exact this
                    · rw [unhide HZ, upn_succ, ← unhide HY, stp_nat]
                · obtain rfl : m = k := by omega
                  have hend := back_end (unhide HO) (unhide HPA) (unhide HBA) (by rw [unhide Hn]; exact hlt) hreach
                  have HEN := hide hend
                  obtain rfl : y = (q : Int) := by rw [unhide HY, ← unhide HX]
                  have hr2 := hreach.2 q (unhide HX) (by rw [unhide Hn]; exact hqn)
                  have hVq := (unhide HBA).off q (by rw [unhide Hn]; exact hqn) hr2.1
                  rw [hr2.2] at hVq
                  have hcv : wr.cell? ⟨w.heap.size, q, none⟩ = some (.int .i64 1) := by
                    rw [hblkv.cell q, ints_get _ _ (by rw [hVl, unhide Hn]; exact hqn), hVq]
                  have d3 : ((1 : Int) == 2 + (i : Int)) = false := beq_eq_false_iff_ne.2 (by omega)
                  have HBV := hide hblkv
                  clear hend hreach hblkv hVl hr2 hVq
                  go_wp2
                  go_roundg (n - i - 1)
                  case measure => go_light; omega
                  case rel =>
                    go_light
                    exact ⟨i + 1, V, by omega, by go_num, unhide HBV, hbelv, HEN⟩
    · have hall : ∀ j : Nat, j < n → Reach P (j : Int) := by
        have h2 := unhide HO
        have e : i = P.length := by rw [unhide Hn]; omega
        rw [e] at h2
        intro j hj
        exact outer_all h2 j (by rw [unhide Hn]; exact hj)
      have HA := hide hall
      clear hall hblk
      go_wp2
      go_ret
      exact ⟨hbel', .inl ⟨rfl, unhide HA⟩⟩

end Go.Proofs.Qxb6600042aMods
