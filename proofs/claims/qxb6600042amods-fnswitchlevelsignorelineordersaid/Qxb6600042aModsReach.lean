import Derived.Test.Qxb6600042aModsFam
import Derived.Test.Qxb6600042aModsTop
import Derived.Deep.CutBlock
import Derived.Deep.RegionLaw
namespace Go.Proofs.Qxb6600042aMods
open Go.RowKit

/-- The outer row of a family. -/
def row (n : Nat) (V : Nat → Value) : List Value := (List.range n).map V
theorem row_length (n : Nat) (V : Nat → Value) : (row n V).length = n := by simp [row]
theorem row_get (n : Nat) (V : Nat → Value) (j : Nat) (h : j < n) : (row n V)[j]? = some (V j) := by simp [row, h]
theorem row_set (n : Nat) (V : Nat → Value) (j : Nat) (v : Value) : (row n V).set j v = row n (upd V j v) := by
  apply List.ext_getElem (by simp [row])
  intro t h1 h2
  rw [List.getElem_set]
  simp only [row, List.getElem_map, List.getElem_range]
  by_cases e : j = t
  · subst e; rw [if_pos rfl, upd_same]
  · rw [if_neg e, upd_other _ _ _ _ (Ne.symm e)]
theorem row_out (n : Nat) (V : Nat → Value) (v : Value) : row n (upd V n v) = row n V := by
  apply List.ext_getElem (by simp [row])
  intro t h1 h2
  have ht : t < n := by simpa [row] using h1
  simp only [row, List.getElem_map, List.getElem_range]
  exact upd_other _ _ _ _ (by omega)

/-- The state of the search for tops: its three parts in memory. -/
structure St (w wr : World) (n gk gr B : Nat) (V : Nat → Value) (L : Nat → List Int) (R : List Bool) : Prop where
  kids : IsBlk wr gk 27 (row n V)
  reach : IsBlk wr gr 4 (bools R)
  fam : Fam wr B (n + 1) V L
  bel : Below w.heap.size w wr
  lt1 : w.heap.size ≤ gk
  lt2 : gk < gr
  lt3 : gr < B
  lt4 : B ≤ wr.heap.size

theorem St.kid {w wr w5 : World} {n gk gr B p : Nat} {V : Nat → Value} {L : Nat → List Int} {R : List Bool} {y : Int} {o : Obj} {v' : Value} (h : St w wr n gk gr B V L R) (hp : p < n)
    (hown : w5.ownsRow B 3 1 v' ((L p).length + 1) (ints (L p ++ [y]))) (hg : (wr.alloc o).grownBy w5 (V p).ownBlock) (hat : v'.ownBlock = (V p).ownBlock ∨ v'.ownBlock = some (wr.heap.size + 1)) :
    St w (w5.setCell ⟨gk, p, none⟩ v') n gk gr B (upd V p v') (upd L p (L p ++ [y])) R := by
  have l1 := h.lt1
  have l2 := h.lt2
  have l3 := h.lt3
  have l4 := h.lt4
  have hrow : ∀ k, (V p).ownBlock = some k → B ≤ k := fun k e => ((h.fam.own p (by omega)).lt k e).1
  have hk := (h.kids.alloc o).kept hg (fun e => by have := hrow gk e.symm; omega)
  have hr := (h.reach.alloc o).kept hg (fun e => by have := hrow gr e.symm; omega)
  have hf := (h.fam.alloc o).push (by omega) hown hg hat (by simp)
  have hs := hg.size
  refine ⟨?_, hr.kept (grown_set w5 gk p v') (by simp; omega), hf.set gk p v' (by omega), ?_, l1, l2, l3, ?_⟩
  · have := hk.set p v'
    rw [row_set] at this
    exact this
  · exact ((h.bel.alloc (by omega) o).grown hg (by simp; omega) (fun k e => by have := hrow k e; omega)).setCell l1 _
  · have := (grown_set w5 gk p v').size
    simp at hs
    omega

theorem St.push {w wr w5 : World} {n gk gr B : Nat} {V : Nat → Value} {L : Nat → List Int} {R : List Bool} {y : Int} {o : Obj} {v' : Value} (h : St w wr n gk gr B V L R)
    (hown : w5.ownsRow B 3 1 v' ((L n).length + 1) (ints (L n ++ [y]))) (hg : (wr.alloc o).grownBy w5 (V n).ownBlock) (hat : v'.ownBlock = (V n).ownBlock ∨ v'.ownBlock = some (wr.heap.size + 1)) :
    St w w5 n gk gr B (upd V n v') (upd L n (L n ++ [y])) R := by
  have l1 := h.lt1
  have l2 := h.lt2
  have l3 := h.lt3
  have l4 := h.lt4
  have hrow : ∀ k, (V n).ownBlock = some k → B ≤ k := fun k e => ((h.fam.own n (by omega)).lt k e).1
  have hs := hg.size
  refine ⟨?_, (h.reach.alloc o).kept hg (fun e => by have := hrow gr e.symm; omega), (h.fam.alloc o).push (by omega) hown hg hat (by simp), ?_, l1, l2, l3, ?_⟩
  · rw [row_out]
    exact (h.kids.alloc o).kept hg (fun e => by have := hrow gk e.symm; omega)
  · exact (h.bel.alloc (by omega) o).grown hg (by simp; omega) (fun k e => by have := hrow k e; omega)
  · simp at hs
    omega

theorem St.mark {w wr : World} {n gk gr B : Nat} {V : Nat → Value} {L : Nat → List Int} {R : List Bool} (h : St w wr n gk gr B V L R) (c : Nat) :
    St w (wr.setCell ⟨gr, c, none⟩ (.bool true)) n gk gr B V L (R.set c true) := by
  have l1 := h.lt1
  have l2 := h.lt2
  have l3 := h.lt3
  refine ⟨h.kids.kept (grown_set wr gr c _) (by simp; omega), ?_, h.fam.set gr c _ l3, h.bel.setCell (by show w.heap.size ≤ gr; omega) _, l1, l2, l3, ?_⟩
  · have := h.reach.set c (.bool true)
    rw [bools_set] at this
    exact this
  · have := (grown_set wr gr c (.bool true)).size
    have := h.lt4
    omega

theorem St.pop {w wr : World} {n gk gr B m : Nat} {V : Nat → Value} {L : Nat → List Int} {R : List Bool} {p : Option Addr} {cap : Nat} {l : List Int} {y : Int} (h : St w wr n gk gr B V L R)
    (hV : V n = .slice p (m + 1) cap) (hL : L n = l ++ [y]) : St w wr n gk gr B (upd V n (.slice p m cap)) (upd L n l) R :=
  ⟨by rw [row_out]; exact h.kids, h.reach, h.fam.pop (by omega) hV hL, h.bel, h.lt1, h.lt2, h.lt3, h.lt4⟩

theorem St.drew {w wr : World} {n gk gr B : Nat} {V : Nat → Value} {L : Nat → List Int} {R : List Bool} (h : St w wr n gk gr B V L R) : St w wr.drew n gk gr B V L R :=
  ⟨h.kids, h.reach, ⟨h.fam.own, h.fam.sep⟩, h.bel.drew, h.lt1, h.lt2, h.lt3, h.lt4⟩

theorem snoc_or (l : List Int) : l = [] ∨ ∃ r c, l = r ++ [c] := by
  rcases List.eq_nil_or_concat l with h | ⟨r, c, h⟩
  · exact .inl h
  · exact .inr ⟨r, c, by simpa using h⟩

set_option maxHeartbeats 4000000 in
theorem reach_some (b o n c : Nat) (P : List Int) (w : World) (hP : OkP P) (hn : P.length = n) (h1 : 1 ≤ n) (hnm : n ≤ 1048576) (hb : b < w.heap.size)
    (hc : ∀ i, i < n → w.cell? ⟨b, o + i, none⟩ = some (.int .i64 (P.getD i 0))) :
    Calls Trym.prog 15 #[.slice (some ⟨b, o, none⟩) n c] w fun e w' => ∃ g R, e = .returned (.slice (some ⟨g, 0, none⟩) n n) ∧ R.length = n ∧ IsBlk w' g 4 (bools R) ∧ w.heap.size ≤ g ∧ (∀ t, t < n → (R.getD t false = true ↔ Reach P (t : Int))) ∧ Below w.heap.size w w' := by
  have HP := hide hP
  have Hn := hide hn
  have Hc := hide hc
  clear hP hn hc
  obtain ⟨i0, hi, hz0, hz1, hz2⟩ := info_parts Trym.info27
  obtain ⟨j0, ki, kz0, kz1, kz2⟩ := info_parts Trym.info4
  go_enter Trym.func15, Trym.ntmps15
  go_wp2_with (at_make; refine wpList_make_full _ rfl _ _ 42 rfl w.heap.size 27 i0 (.slice none 0 0) 1 Trym.underlying42 hi hz0 hz1 .i64 .i64 _ _ n rfl rfl rfl rfl ?c1 ?c2 ?c3 ?_)
  case c1 => rw [hz2]; omega
  case c2 => unfold maxLen; omega
  case c3 => exact Nat.le_refl _
  intro w1 hown1 hgrow1
  have hbel1 : Below w.heap.size w w1 := (Below.refl _ _).grown hgrow1 (Nat.le_refl _) (fun k h => by cases h)
  have hs1 := hbel1.size
  go_wp2_with (at_make; refine wpList_make_full _ rfl _ _ 31 rfl w1.heap.size 4 j0 (.bool false) 1 Trym.underlying31 ki kz0 kz1 .i64 .i64 _ _ n rfl rfl rfl rfl ?c1 ?c2 ?c3 ?_)
  case c1 => rw [kz2]; omega
  case c2 => unfold maxLen; omega
  case c3 => exact Nat.le_refl _
  intro w2 hown2 hgrow2
  have hst : St w w2 n w.heap.size w1.heap.size w2.heap.size (fun _ => .slice none 0 0) (fun _ => []) (topB P 0) := by
    have l1 := (hown1.lt w.heap.size rfl).2
    have l2 := (hown2.lt w1.heap.size rfl).2
    refine ⟨?_, ?_, ⟨fun j _ => World.ownsRow_nil _ _ _ _, fun j j' _ _ _ => .inl rfl⟩, hbel1.grown hgrow2 hs1 (fun k h => by cases h), Nat.le_refl _, l1, l2, Nat.le_refl _⟩
    · have h2 := (blk_of_own hown1).kept hgrow2 (by simp)
      have e : (madeCells #[Value.slice none 0 0] n).toList = row n (fun _ => .slice none 0 0) := by
        rw [toList_madeCells_one]
        apply List.ext_getElem (by simp [row])
        intro t _ _
        simp [row]
      rw [e] at h2
      exact h2
    · have h2 := blk_of_own hown2
      have e : (madeCells #[Value.bool false] n).toList = bools (topB P 0) := by
        rw [toList_madeCells_one]
        apply List.ext_getElem (by simp [bools, topB, unhide Hn])
        intro t _ _
        simp [bools, topB]
      rw [e] at h2
      exact h2
  have HST := hide hst
  obtain ⟨B, hBd⟩ : ∃ B, B = w2.heap.size := ⟨_, rfl⟩
  rw [← hBd] at HST
  obtain ⟨gr, hgr⟩ : ∃ g, g = w1.heap.size := ⟨_, rfl⟩
  rw [← hgr] at HST ⊢
  clear hst hown1 hown2 hgrow1 hgrow2 hi hz0 hz1 hz2 ki kz0 kz1 kz2 hbel1 hs1 hBd hgr
  go_wp2
  go_loopg [6, 7] n (fun gk s x wr => ∃ (i : Nat) (V : Nat → Value) (L : Nat → List Int), i + gk = n ∧ s = V n ∧ x = .int .i64 i ∧ Hid (St w wr n w.heap.size gr B V L (topB P i)) ∧ Hid (∀ j, j < n → L j = kidsTo P i j) ∧ Hid (L n = topsTo P i))
  case atStart => exact ⟨0, _, _, by omega, rfl, rfl, HST, hide (fun j _ => rfl), hide rfl⟩
  case round =>
    obtain ⟨i, V, L, hik, rfl, rfl, HS, HK, HT⟩ := hrel
    clear HST
    by_cases hlt : i < n
    · have hst := unhide HS
      obtain ⟨x, hx⟩ : ∃ x, x = P.getD i 0 := ⟨_, rfl⟩
      have hcx := (hst.bel.cell (p := ⟨b, o + i, none⟩) (by exact hb)).trans (unhide Hc i hlt)
      rw [← hx] at hcx
      have hxn : x < n := by
        have := unhide HP i (by rw [unhide Hn]; exact hlt)
        rw [← hx, unhide Hn] at this
        exact this
      have l1 := hst.lt1
      have l2 := hst.lt2
      have l3 := hst.lt3
      have l4 := hst.lt4
      by_cases hx0 : x < 0
      · have hil : i < (topB P i).length := by rw [topB_length, unhide Hn]; exact hlt
        have hcr : wr.cell? ⟨gr, i, none⟩ = some (.bool ((topB P i).getD i false)) := by
          rw [hst.reach.cell i, bools_get _ _ hil]
        have hfr := hst.reach.frozen i
        have HM := hide (hst.mark i)
        have HX := hide hx
        have d4 : (i : Int) < n := by omega
        have hLl : (L n).length ≤ n := by
          rw [unhide HT]
          have := topsTo_le P i
          omega
        have HO := hide ((unhide HM).fam.own n (by omega))
        have hszm : B ≤ (wr.setCell ⟨gr, i, none⟩ (.bool true)).heap.size := (unhide HM).lt4
        clear hst hx hil
        go_wp2_with (at_builtin; refine wpList_push _ rfl (.tmp 30) (.tmp 32) rfl B (V n) (L n).length (L n) rfl (unhide HO) (i : Int) wr.heap.size (by simp) rfl (by omega) hszm ?_)
        intro v2 w2 hown2 hgrow2 hat2
        have HS5 := hide ((unhide HM).push hown2 hgrow2 (by simpa using hat2))
        clear hown2 hgrow2 hat2
        go_wp2
        go_roundg (n - (i + 1))
        case measure => go_light; omega
        case rel =>
          go_light
          have hxi := unhide HX
          refine ⟨i + 1, upd V n v2, upd L n (L n ++ [(i : Int)]), by omega, ?_, by go_num, hide ?_, hide (fun j hj => ?_), hide ?_⟩
          · exact (upd_same _ _ _).symm
          · rw [← topB_yes P i (by rw [← hxi]; exact hx0)]
            exact unhide HS5
          · rw [upd_other _ _ _ _ (by omega), unhide HK j hj, kidsTo_no P i j (by rw [← hxi]; omega)]
          · rw [upd_same, unhide HT, topsTo_yes P i (by rw [← hxi]; exact hx0)]
      · obtain ⟨p, rfl⟩ := Int.eq_ofNat_of_zero_le (show 0 ≤ x by omega)
        have hpn : p < n := by omega
        have hVp := hst.fam.own p (by omega)
        obtain ⟨kp, kc, hVe, q1, q2, q3, q4, q5⟩ := shows_own hVp
        have hck : wr.cell? ⟨w.heap.size, p, none⟩ = some (.slice kp (L p).length kc) := by
          rw [hst.kids.cell p, row_get _ _ _ hpn, hVe]
        have hfk := hst.kids.frozen p
        have d1 : (0 : Int) ≤ (p : Int) := by omega
        have d2 : (p : Int) < n := by omega
        have d3 : (0 : Int) ≤ (i : Int) := by omega
        have d4 : (i : Int) < n := by omega
        have hLl : (L p).length ≤ n := by
          rw [unhide HK p hpn]
          have := kidsTo_le P i p
          omega
        rw [hVe] at hVp
        have HO := hide hVp
        have HX := hide hx
        obtain ⟨i3, gi, gz0, gz1, gz2⟩ := info_parts Trym.info3
        have hne : b ≠ w.heap.size := by omega
        have hn1 : some b ≠ (Value.slice kp (L p).length kc).ownBlock := by
          intro e
          have := (hVp.lt b e.symm).1
          omega
        have hn2 : some w.heap.size ≠ (Value.slice kp (L p).length kc).ownBlock := by
          intro e
          have := (hVp.lt _ e.symm).1
          omega
        have hcx2 : ∀ o' : Obj, (wr.alloc o').cell? ⟨b, o + i, none⟩ = some (.int .i64 (p : Int)) := fun o' => by
          have h := ((hst.bel.alloc (by omega) o').cell (p := ⟨b, o + i, none⟩) (by exact hb)).trans (unhide Hc i hlt)
          rw [← hx] at h
          exact h
        have hck2 : ∀ o : Obj, (wr.alloc o).cell? ⟨w.heap.size, p, none⟩ = some (.slice kp (L p).length kc) := fun o => by
          rw [(hst.kids.alloc o).cell p, row_get _ _ _ hpn, hVe]
        have hfr5 : ∀ o : Obj, (wr.alloc o).frozen? ⟨w.heap.size, p, none⟩ = false := fun o => (hst.kids.alloc o).frozen p
        clear hst hVp hx q1 q2 q3 q4 q5 hx0
        go_upto_block 1 with fail
        go_cut [6] from 17 to 49 (fun s6 wc => s6 = V n ∧ ∃ v', Hid (St w wc n w.heap.size gr B (upd V p v') (upd L p (L p ++ [(i : Int)])) (topB P i)))
        case first =>
          go_wp2_with fail
          go_region_law (refine step_append_lies _ (by rfl) _ _ _ (by rfl) B 3 i3 _ 1 8 Trym.underlying27 gi gz0 gz1 gz2 rfl (by omega) (.slice kp (L p).length kc) (L p).length (ints (L p)) (by rfl) (((unhide HO).alloc _).drew) ⟨wr.heap.size, 0, none⟩ 1 1 [.int .i64 (i : Int)] (by rfl) (by rfl) (World.news_of_block (cs := #[.int .i64 (i : Int)]) (t := 3) (fr := (0, 0)) (heap_new wr _)) (by simp [Value.oneCell']) (by omega) (by unfold maxLen; omega) (by omega) (by simp; omega) (wr.heap.size + 1) (by simp) ?_; intro g cap w5 hown5 hgrow hat hlt5; have hf5 : w5.frozen? ⟨w.heap.size, p, none⟩ = false := (hgrow.frozen_far ⟨w.heap.size, p, none⟩ (by simp; omega) hn2).trans (hfr5 _); have hc5 : w5.cell? ⟨w.heap.size, p, none⟩ = some (.slice kp (L p).length kc) := (hgrow.cell_far ⟨w.heap.size, p, none⟩ (by simp; omega) hn2).trans (hck2 _); have hx5 : w5.cell? ⟨b, o + i, none⟩ = some (.int .i64 (p : Int)) := (hgrow.cell_far ⟨b, o + i, none⟩ (by simp; omega) hn1).trans (hcx2 _))
          all_goals
            go_wp2_with fail
            go_meet
            case rel =>
              go_light
              exact ⟨rfl, _, hide ((unhide HS).kid (p := p) (y := (i : Int)) (o := .cells #[.int .i64 (i : Int)] 3) (v' := .slice (some ⟨g, 0, none⟩) ((L p).length + 1) cap) hpn (by rw [← ints_snoc]; exact hown5) (by rw [hVe]; exact ⟨hgrow.os, hgrow.tape, hgrow.output, hgrow.size, hgrow.block⟩) (by rw [hVe]; rcases hat with h | h; exact .inl h.symm; exact .inr (by rw [h]; rfl)))⟩
        case rest =>
          obtain ⟨rfl, v', HS5⟩ := hcut
          clear hck hfk hcx2 hck2 hfr5 hcx
          go_wp2
          go_roundg (n - (i + 1))
          case measure => go_light; omega
          case rel =>
            go_light
            have hxi := unhide HX
            refine ⟨i + 1, upd V p v', upd L p (L p ++ [(i : Int)]), by omega, ?_, by go_num, hide ?_, hide (fun j hj => ?_), hide ?_⟩
            · exact (upd_other _ _ _ _ (by omega)).symm
            · rw [← topB_no P i (by rw [← hxi]; omega)]
              exact unhide HS5
            · by_cases e : j = p
              · subst e
                rw [upd_same, unhide HK j hj, kidsTo_yes P i j hxi.symm]
              · rw [upd_other _ _ _ _ e, unhide HK j hj, kidsTo_no P i j (by rw [← hxi]; omega)]
            · rw [upd_other _ _ _ _ (by omega), unhide HT, topsTo_no P i (by rw [← hxi]; omega)]
    · have hin : i = n := by omega
      subst hin
      have HSR : Hid (Srch P (topB P i) (L i) i) := by
        have h := srch_start P
        rw [unhide Hn] at h
        rw [unhide HT]
        exact h
      clear hik hlt
      go_wp2
      go_loopg [6] (2 * off (topB P i) + (L i).length) (fun gk s wr => ∃ (V : Nat → Value) (L : Nat → List Int) (R : List Bool), s = V i ∧ Hid (St w wr i w.heap.size gr B V L R) ∧ Hid (∀ j, j < i → L j = kidsTo P i j) ∧ Hid (Srch P R (L i) i) ∧ 2 * off R + (L i).length ≤ gk ∧ gk ≤ 3 * i)
      case atStart =>
        refine ⟨V, L, topB P i, rfl, HS, HK, HSR, Nat.le_refl _, ?_⟩
        have t1 := off_le (topB P i)
        have t2 := topsTo_le P i
        rw [topB_length, unhide Hn] at t1
        rw [unhide HT]
        omega
      case round =>
        obtain ⟨V1, L1, R1, rfl, HS1, HK1, HR1, hmu, hg3⟩ := hrel
        clear HS HK HT HSR
        have hst := unhide HS1
        have l1 := hst.lt1
        have l2 := hst.lt2
        have l3 := hst.lt3
        have l4 := hst.lt4
        have hVn := hst.fam.own i (by omega)
        obtain ⟨sp, sc, hVe, q1, q2, q3, q4, q5⟩ := shows_own hVn
        rw [hVe]
        have HVE := hide hVe
        rcases snoc_or (L1 i) with hL | ⟨l, y, hL⟩
        · have hl0 : (L1 i).length = 0 := by rw [hL]; rfl
          have hend := srch_end (unhide HP) (by have h := unhide HR1; rw [hL, ← unhide Hn] at h; exact h)
          rw [unhide Hn] at hend
          have HEN := hide hend
          have HRL := hide (unhide HR1).len
          rw [hl0]
          clear hVn q3 q4 q5 hVe hst hL hend q1
          go_wp2
          go_ret
          exact ⟨gr, R1, rfl, by rw [unhide HRL, unhide Hn], (unhide HS1).reach, by omega, unhide HEN, (unhide HS1).bel⟩
        · have hlm : (L1 i).length = l.length + 1 := by rw [hL]; simp
          have hrl : Srch P R1 (l ++ [y]) P.length := by
            have h := unhide HR1
            rw [hL] at h
            rw [unhide Hn]
            exact h
          obtain ⟨x, rfl, hxn, hRx, hsr⟩ := srch_pop hrl
          rw [unhide Hn] at hxn
          rcases q4 with q4 | ⟨sb, so, rfl, hsb, hsc⟩
          · omega
          · have hcl : wr.cell? ⟨sb, so + l.length, none⟩ = some (.int .i64 (x : Int)) := by
              rw [hsc l.length (by omega), hL]
              simp
            have HPO := hide (hst.pop (m := l.length) (by rw [hVe, hlm]) hL)
            have hmu2 : 2 * off R1 + l.length + 1 ≤ gk := by omega
            rw [hlm]
            have q2' : sc ≤ 9223372036854775807 := by unfold maxLen at q2; omega
            have q1' : l.length + 1 ≤ sc := by omega
            have HSR := hide hsr
            have HRX := hide hRx
            have e0 : ((l.length : Int) + 1 - 1) = (l.length : Int) := by omega
            have hll : l.length ≤ 1099511627776 := by omega
            clear hVn q3 q5 hVe hst hL hrl hsc q1 q2 hsr hRx hlm hmu HR1 HS1
            obtain ⟨G0, hG0⟩ : ∃ G, G = gk := ⟨_, rfl⟩
            rw [← hG0] at hmu2 hg3
            have HG0 := hide hG0
            clear hG0
            go_wp2
            go_loopg [6, 9] (kidsTo P i x).length (fun gk s jj wr => ∃ (j : Nat) (V : Nat → Value) (L : Nat → List Int) (R : List Bool), j + gk = (kidsTo P i x).length ∧ jj = .int .i64 j ∧ s = V i ∧ Hid (St w wr i w.heap.size gr B V L R) ∧ Hid (∀ j, j < i → L j = kidsTo P i j) ∧ Hid (Srch P R (L i) x) ∧ Hid (R.getD x false = true) ∧ Hid (∀ t, t < j → R.getD ((kidsTo P i x).getD t 0).toNat false = true) ∧ 2 * off R + (L i).length + 1 ≤ G0)
            case atStart =>
              refine ⟨0, _, _, R1, by omega, rfl, (upd_same _ _ _).symm, HPO, hide (fun j hj => ?_), hide ?_, HRX, hide (fun t ht => by omega), ?_⟩
              · rw [upd_other _ _ _ _ (by omega)]; exact unhide HK1 j hj
              · rw [upd_same]; exact unhide HSR
              · rw [upd_same]; exact hmu2
            case round =>
              obtain ⟨j, V2, L2, R2, hjk, rfl, rfl, HS2, HK2, HR2, HX2, HD2, hmu3⟩ := hrel
              clear HPO HK1 HSR HRX hcl
              have hst := unhide HS2
              have k4 := hst.lt4
              have hVx := hst.fam.own x (by omega)
              rw [unhide HK2 x hxn] at hVx
              obtain ⟨kp, kc, hVe, q1, q2, q3, q4, q5⟩ := shows_own hVx
              have hck : wr.cell? ⟨w.heap.size, x, none⟩ = some (.slice kp (kidsTo P i x).length kc) := by
                rw [hst.kids.cell x, row_get _ _ _ hxn, hVe]
              have dx : (x : Int) < i := by omega
              have hkl := kidsTo_le P i x
              by_cases hjl : j < (kidsTo P i x).length
              · rcases q4 with q4 | ⟨kb, ko, rfl, hkb, hkc⟩
                · omega
                · have hmem : (kidsTo P i x).getD j 0 ∈ kidsTo P i x := by
                    rw [List.getD_eq_getElem?_getD, List.getElem?_eq_getElem hjl, Option.getD_some]
                    exact List.getElem_mem hjl
                  obtain ⟨c1, hc1n, hc1, hc1p⟩ := (mem_kids P i x _).1 hmem
                  have hckj := hkc j hjl
                  rw [hc1] at hckj
                  have hRl := (unhide HR2).len
                  rw [unhide Hn] at hRl
                  obtain ⟨rc, hrc⟩ : ∃ r, r = R2.getD c1 false := ⟨_, rfl⟩
                  have hcr : wr.cell? ⟨gr, c1, none⟩ = some (.bool rc) := by
                    rw [hst.reach.cell c1, bools_get _ _ (by omega), hrc]
                  have hfr := hst.reach.frozen c1
                  have dj : (j : Int) < ((kidsTo P i x).length : Nat) := by omega
                  have dc : (c1 : Int) < i := by omega
                  have HC1 := hide hc1
                  have hnext : ∀ R : List Bool, (∀ t, R2.getD t false = true → R.getD t false = true) → R.getD c1 false = true → ∀ t, t < j + 1 → R.getD ((kidsTo P i x).getD t 0).toNat false = true := by
                    intro R hm hc t ht
                    by_cases e : t = j
                    · subst e
                      rw [unhide HC1, Int.toNat_natCast]
                      exact hc
                    · exact hm _ (unhide HD2 t (by omega))
                  have HNX := hide hnext
                  have HRC := hide hrc
                  have HM := hide (hst.mark c1)
                  have HPU := hide (srch_push (unhide HR2) (by rw [unhide Hn]; exact hxn) (unhide HX2) (by rw [unhide Hn]; exact hc1n) hc1p)
                  have hszm : B ≤ (wr.setCell ⟨gr, c1, none⟩ (.bool true)).heap.size := (unhide HM).lt4
                  have HO := hide ((unhide HM).fam.own i (by omega))
                  obtain ⟨Lk, hLk⟩ : ∃ Lk, Lk = (kidsTo P i x).length := ⟨_, rfl⟩
                  rw [← hLk] at hjk hck hjl dj hkl
                  have HLK := hide hLk
                  clear hst hVx hVe q3 q5 hmem hc1 hkc hnext hrc hc1p hLk q1
                  cases rc with
                  | true =>
                    go_wp2
                    go_roundg (Lk - (j + 1))
                    case measure => go_light; omega
                    case rel =>
                      go_light
                      exact ⟨j + 1, V2, L2, R2, by have := unhide HLK; omega, by go_num, rfl, HS2, HK2, HR2, HX2, hide (unhide HNX R2 (fun _ h => h) (unhide HRC).symm), hmu3⟩
                  | false =>
                    have hoff := off_set R2 c1 (by omega) (unhide HRC).symm
                    have HOF := hide hoff
                    clear hoff
                    go_wp2_with (at_builtin; refine wpList_push _ rfl (.tmp 88) (.tmp 90) rfl B (V2 i) (L2 i).length (L2 i) rfl (unhide HO) (c1 : Int) wr.heap.size (by simp) rfl (by omega) hszm ?_)
                    intro v2 w2 hown2 hgrow2 hat2
                    have HS5 := hide ((unhide HM).push hown2 hgrow2 (by simpa using hat2))
                    clear hown2 hgrow2 hat2
                    go_wp2
                    go_roundg (Lk - (j + 1))
                    case measure => go_light; omega
                    case rel =>
                      go_light
                      have hmono : ∀ t, R2.getD t false = true → (R2.set c1 true).getD t false = true := by
                        intro t ht
                        rw [getD_set _ _ _ _ _ (by omega)]
                        split
                        · rfl
                        · exact ht
                      refine ⟨j + 1, upd V2 i v2, upd L2 i (L2 i ++ [(c1 : Int)]), R2.set c1 true, by have := unhide HLK; omega, by go_num, (upd_same _ _ _).symm, HS5, hide (fun t ht => ?_), hide ?_, hide (hmono x (unhide HX2)), hide (unhide HNX _ hmono ?_), ?_⟩
                      · rw [upd_other _ _ _ _ (by omega)]; exact unhide HK2 t ht
                      · rw [upd_same]; exact unhide HPU
                      · rw [getD_set _ _ _ _ _ (by omega), if_pos rfl]
                      · rw [upd_same]
                        have := unhide HOF
                        simp only [List.length_append, List.length_cons, List.length_nil]
                        omega
              · have hdone := srch_done_ix (unhide Hn) (unhide HR2) (show (kidsTo P i x).length ≤ j by omega) (unhide HD2)
                have HDN := hide hdone
                have dj : ¬ (j : Int) < ((kidsTo P i x).length : Nat) := by omega
                clear hst hVx hVe q3 q5 q4 q1 hdone
                go_wp2
                go_roundg (2 * off R2 + (L2 i).length)
                case measure => go_light; have := unhide HG0; omega
                case rel =>
                  go_light
                  exact ⟨V2, L2, R2, rfl, HS2, HK2, HDN, Nat.le_refl _, by omega⟩

set_option maxHeartbeats 1000000 in
theorem reach_zero (p : Option Addr) (c : Nat) (w : World) :
    Calls Trym.prog 15 #[.slice p 0 c] w fun e w' => ∃ g, e = .returned (.slice (some ⟨g, 0, none⟩) 0 0) ∧ IsBlk w' g 4 (bools []) ∧ w.heap.size ≤ g ∧ Below w.heap.size w w' := by
  obtain ⟨i0, hi, hz0, hz1, hz2⟩ := info_parts Trym.info27
  obtain ⟨j0, ki, kz0, kz1, kz2⟩ := info_parts Trym.info4
  go_enter Trym.func15, Trym.ntmps15
  go_wp2_with (at_make; refine wpList_make_full _ rfl _ _ 42 rfl w.heap.size 27 i0 (.slice none 0 0) 1 Trym.underlying42 hi hz0 hz1 .i64 .i64 _ _ 0 rfl rfl rfl rfl ?c1 ?c2 ?c3 ?_)
  case c1 => simp
  case c2 => unfold maxLen; omega
  case c3 => exact Nat.le_refl _
  intro w1 hown1 hgrow1
  have hbel1 : Below w.heap.size w w1 := (Below.refl _ _).grown hgrow1 (Nat.le_refl _) (fun k h => by cases h)
  have hs1 := hbel1.size
  go_wp2_with (at_make; refine wpList_make_full _ rfl _ _ 31 rfl w1.heap.size 4 j0 (.bool false) 1 Trym.underlying31 ki kz0 kz1 .i64 .i64 _ _ 0 rfl rfl rfl rfl ?c1 ?c2 ?c3 ?_)
  case c1 => simp
  case c2 => unfold maxLen; omega
  case c3 => exact Nat.le_refl _
  intro w2 hown2 hgrow2
  have hbel2 := hbel1.grown hgrow2 hs1 (fun k h => by cases h)
  have hblk : IsBlk w2 w1.heap.size 4 (bools []) := by
    have h2 := blk_of_own hown2
    rw [toList_madeCells_one] at h2
    exact h2
  have HB := hide hblk
  clear hown1 hown2 hgrow1 hgrow2 hblk
  go_wp2
  refine wp_loop_rounds 1 ?_
  rw [rounds_succ]
  go_wp2
  refine wp_loop_rounds 1 ?_
  rw [rounds_succ]
  go_wp2
  go_ret
  exact ⟨_, rfl, unhide HB, hs1, hbel2⟩

/-- zzReachesTopB1, whatever slice. -/
theorem reach_any (p : Option Addr) (n c : Nat) (P : List Int) (w : World) (hP : OkP P) (hn : P.length = n) (hnm : n ≤ 1048576) (hs : Shows w p n P) :
    Calls Trym.prog 15 #[.slice p n c] w fun e w' => ∃ g R, e = .returned (.slice (some ⟨g, 0, none⟩) n n) ∧ R.length = n ∧ IsBlk w' g 4 (bools R) ∧ w.heap.size ≤ g ∧ (∀ t, t < n → (R.getD t false = true ↔ Reach P (t : Int))) ∧ Below w.heap.size w w' := by
  rcases Nat.eq_zero_or_pos n with h0 | h0
  · subst h0
    refine (reach_zero p c w).mono ?_
    rintro e w' ⟨g, rfl, h1, h2, h3⟩
    exact ⟨g, [], rfl, rfl, h1, h2, fun t ht => by omega, h3⟩
  · rcases hs with h | ⟨b, o, rfl, hb, hc⟩
    · omega
    · exact reach_some b o n c P w hP hn h0 hnm hb hc

end Go.Proofs.Qxb6600042aMods
