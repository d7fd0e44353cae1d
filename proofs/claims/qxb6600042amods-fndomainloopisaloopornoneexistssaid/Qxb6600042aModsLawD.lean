import Derived.Test.Qxb6600042aModsZZ
import Derived.Test.Qxb6600042aModsReach
import Derived.Laws.CopyOwn
import Derived.Deep.QuietTactic
import Derived.BigQuiet
namespace Go.Proofs.Qxb6600042aMods
open Go.RowKit

set_option maxHeartbeats 1000000 in
theorem zz13 (p : Option Addr) (n c : Nat) (w : World) (hn : n ≤ 9223372036854775807) :
    Calls Trym.prog 13 #[.slice p n c] w fun e w' => e = .returned (.bool (decide (n ≤ 1048576))) ∧ w' = w := by
  by_cases h : n ≤ 1048576
  · rw [decide_eq_true h]
    have h1 : ¬ (1048576 : Int) < n := by omega
    go_enter Trym.func13, Trym.ntmps13
    go_wp2
    go_ret
    exact ⟨rfl, rfl⟩
  · rw [decide_eq_false h]
    have h1 : (1048576 : Int) < n := by omega
    go_enter Trym.func13, Trym.ntmps13
    go_wp2
    go_ret
    exact ⟨rfl, rfl⟩

theorem blk_setRow {w : World} {g t : Nat} {l : List Value} (h : IsBlk w g t l) (l' : List Value) : IsBlk (w.setRow g l'.toArray) g t l' := by
  have hlt := h.lt
  unfold IsBlk at h ⊢
  unfold World.setRow
  simp only [Array.getElem?_modify, if_pos, h, Option.map_some]

set_option maxHeartbeats 4000000 in
theorem law_some (b o n c : Nat) (P : List Int) (w : World) (hn : P.length = n) (h0 : 1 ≤ n) (hnm : n ≤ 131072) (hb : b < w.heap.size)
    (hc : ∀ i, i < n → w.cell? ⟨b, o + i, none⟩ = some (.int .i64 (P.getD i 0))) :
    Calls Trym.prog 5 #[.slice (some ⟨b, o, none⟩) n c] w fun e w' => e = .returned (.bool true) ∧ Below w.heap.size w w' := by
  have q27 := fun (w : World) (a : Option Addr) (n c n' c' : Nat) => run_neq_slice_nil_any (P := Trym.prog) w _ _ a n c n' c' Trym.underlying27
  have Hz := hide (zz13 (some ⟨b, o, none⟩) n c w (by omega))
  rw [decide_eq_true (by omega)] at Hz
  have t1 : ¬ (131072 : Int) < n := by omega
  obtain ⟨i0, hi, hz0, hz1, hz2⟩ := info_parts Trym.info3
  go_enter Trym.func5, Trym.ntmps5
  go_wp2_with fail
  refine (unhide Hz).mono ?_
  rintro e w0 ⟨rfl, rfl⟩
  go_wp2_with (at_make; refine wpList_make_full _ rfl _ _ 27 rfl w0.heap.size 3 i0 (.int .i64 0) 1 Trym.underlying27 hi hz0 hz1 .i64 .i64 _ _ n rfl rfl rfl rfl ?c1 ?c2 ?c3 ?_)
  case c1 => rw [hz2]; omega
  case c2 => unfold maxLen; omega
  case c3 => exact Nat.le_refl _
  intro w1 hown1 hgrow1
  have hs1 := hgrow1.size
  have hbel1 : Below w0.heap.size w0 w1 := (Below.refl _ _).grown hgrow1 (Nat.le_refl _) (fun k h => by cases h)
  obtain ⟨w2, hcopy, hblk, hbel⟩ : ∃ w2, (Builtin.copy_ #[27, 27] 3 #[.slice (some ⟨w0.heap.size, 0, none⟩) n n, .slice (some ⟨b, o, none⟩) n c]).run Trym.prog w1 = .ok (.int .i64 (n : Int)) w2 ∧ IsBlk w2 w0.heap.size 3 (ints P) ∧ Below w0.heap.size w0 w2 := by
    have hb1 := blk_of_own hown1
    rw [toList_madeCells_one] at hb1
    refine ⟨w1.setRow w0.heap.size (ints P).toArray, ?_, ?_, below_setRow hbel1 (Nat.le_refl _) _⟩
    · have h := run_copy_row (P := Trym.prog) w1 27 27 3 3 w0.heap.size 0 n n ⟨b, o, none⟩ n c (List.replicate n (Value.int .i64 0)).toArray 3 (ints P) Trym.underlying27 (by rw [hi]; simp [hz1]) hb1 (by rw [ints_length, hn]; simp) (fun j v hv => by
        have hj : j < P.length := by
          have := (List.getElem?_eq_some_iff.1 hv).1
          rwa [ints_length] at this
        rw [Addr.add_lit, hbel1.cell (by exact hb), hc j (by omega), ← ints_get _ _ hj]
        exact hv) (by simp [ints_length, hn]) (ints_one _)
      rw [h]
      congr 1
      · rw [ints_length, hn]; rfl
      · congr 2
        simp [ints_length, hn]
    · exact blk_setRow hb1 (ints P)
  have Hn := hide hn
  obtain ⟨j0, ki, kz0, kz1, kz2⟩ := info_parts Trym.info4
  clear hown1 hgrow1 hbel1 hi hz0 hz1 hz2 hc hn
  go_wp2_with fail
  clear hcopy
  go_loopw [5] (fun s wr => ∃ i : Nat, i ≤ n ∧ s = .int .i64 i ∧ w2 = wr ∧ Hid (∀ j, j < i → P.getD j 0 < (n : Int))) (fun s _ => n - (intOf s).toNat)
  case atStart => exact ⟨0, Nat.zero_le _, rfl, rfl, hide (fun j hj => by omega)⟩
  case round =>
    obtain ⟨i, hin, rfl, rfl, HL⟩ := hrel
    by_cases hlt : i < n
    · obtain ⟨x, hx⟩ : ∃ x, x = P.getD i 0 := ⟨_, rfl⟩
      have hcx : w2.cell? ⟨w0.heap.size, i, none⟩ = some (.int .i64 x) := by
        rw [hblk.cell i, ints_get _ _ (by rw [unhide Hn]; exact hlt), hx]
      have d1 : (i : Int) < n := by omega
      have HX := hide hx
      have HB := hide hblk
      clear hx hblk
      by_cases hxn : x < n
      · have d2 : ¬ (n : Int) ≤ x := by omega
        go_wp2
        go_roundw
        case rel =>
          go_light
          refine ⟨i + 1, by omega, by go_num, trivial, hide (fun j hj => ?_)⟩
          by_cases e : j = i
          · subst e; rw [← unhide HX]; exact hxn
          · exact unhide HL j (by omega)
        case measure => go_light; simp [intOf]; omega
      · have d2 : (n : Int) ≤ x := by omega
        go_wp2
        go_ret
        exact ⟨rfl, hbel⟩
    · have hok : OkP P := by
        intro j hj
        rw [unhide Hn] at hj ⊢
        exact unhide HL j (by omega)
      have HOK := hide hok
      have hsh : Shows w2 (some ⟨w0.heap.size, 0, none⟩) n P := .inr ⟨w0.heap.size, 0, rfl, hblk.lt, fun j hj => by
        rw [Nat.zero_add, hblk.cell j, ints_get _ _ (by rw [unhide Hn]; exact hj)]⟩
      have HZL := hide (zzloop_any (some ⟨w0.heap.size, 0, none⟩) n n P w2 hok (unhide Hn) (by omega) hsh)
      have HSH := hide hsh
      have HB := hide hblk
      have hg0 := hblk.lt
      clear hok hsh hblk
      go_wp2_with fail
      refine (unhide HZL).mono ?_
      rintro e w3 ⟨b3, hcase⟩
      have HRE := hide (reach_any (some ⟨w0.heap.size, 0, none⟩) n n P w3 (unhide HOK) (unhide Hn) (by omega) ((unhide HSH).below b3 (Nat.le_refl _)))
      have hs3 := b3.size
      rcases hcase with ⟨rfl, hall⟩ | ⟨v, l, rfl, q1, q2, q3, q4⟩
      · have HAL := hide hall
        clear hall
        go_wp2_with fail
        refine (unhide HRE).mono ?_
        rintro e w4 ⟨gR, R, rfl, r1, r2, r3, r4, b4⟩
        have HR4 := hide r4
        have HR2 := hide r2
        have HR1 := hide r1
        have hbelz : Below w0.heap.size w0 w4 := (hbel.trans (b3.mono hbel.size)).trans (b4.mono (Nat.le_trans hbel.size hs3))
        have q27e := fun (w : World) (a : Option Addr) (n c n' c' : Nat) => Lib.run_eql_slice_nil (P := Trym.prog) w _ _ a n c n' c' Trym.underlying27
        clear r4 r2 r1
        go_wp2
        go_loopw [8, 9] (fun a s wr => ∃ i : Nat, i ≤ n ∧ s = .int .i64 i ∧ a = .bool true ∧ w4 = wr) (fun _ s _ => n - (intOf s).toNat)
        case atStart => exact ⟨0, Nat.zero_le _, rfl, rfl, rfl⟩
        case round =>
          obtain ⟨i, hin2, rfl, rfl, rfl⟩ := hrel
          by_cases hlt2 : i < n
          · have hci : w4.cell? ⟨gR, i, none⟩ = some (.bool true) := by
              rw [(unhide HR2).cell i, bools_get _ _ (by rw [unhide HR1]; exact hlt2), (unhide HR4 i hlt2).2 (unhide HAL i hlt2)]
            have d1 : (i : Int) < n := by omega
            go_wp2
            go_roundw
            case rel => exact ⟨i + 1, by omega, by go_num, rfl, trivial⟩
            case measure => go_light; simp [intOf]; omega
          · go_wp2
            go_ret
            exact ⟨rfl, hbelz⟩
      · have hl1 := q1.pos
        have hv : ∃ gl cl, v = .slice (some ⟨gl, 0, none⟩) l.length cl ∧ w2.heap.size ≤ gl ∧ gl < w3.heap.size ∧ (∀ j, j < l.length → w3.cell? ⟨gl, j, none⟩ = some (.int .i64 (l.getD j 0))) := by
          have q4' := q4
          rcases q4.2 with ⟨h, _⟩ | ⟨g, cap, cur, rfl, hg, _⟩
          · exact absurd h q3
          · have hlt := q4'.lt g rfl
            exact ⟨g, cap, rfl, hg, hlt.2, fun j hj => by rw [q4'.cellAt j (by omega), ints_get _ _ hj]⟩
        obtain ⟨gl, cl, rfl, hgl, hgl3, hlc⟩ := hv
        have HLC := hide hlc
        have HQ := hide q1
        obtain ⟨m, hm⟩ : ∃ m, m = l.length := ⟨_, rfl⟩
        rw [← hm] at hl1 q2
        have HM := hide hm
        rw [← hm]
        clear hlc q1 q3 q4 hm
        go_wp2_with fail
        refine (unhide HRE).mono ?_
        rintro e w4 ⟨gR, R, rfl, r1, r2, r3, r4, b4⟩
        have HR4 := hide r4
        have HR2 := hide r2
        have HR1 := hide r1
        have hbelz : Below w0.heap.size w0 w4 := (hbel.trans (b3.mono hbel.size)).trans (b4.mono (Nat.le_trans hbel.size hs3))
        have hs4 := b4.size
        have q27e := fun (w : World) (a : Option Addr) (n c n' c' : Nat) => Lib.run_eql_slice_nil (P := Trym.prog) w _ _ a n c n' c' Trym.underlying27
        have hf0 : ∃ f : Nat, (f : Int) = l.getD 0 0 ∧ f < n ∧ R.getD f false = false := by
          have h := (unhide HQ).range 0 (by have := unhide HM; omega)
          have h2 := (unhide HQ).out
          rw [unhide Hn] at h
          refine ⟨(l.getD 0 0).toNat, by omega, by omega, ?_⟩
          rw [Bool.eq_false_iff]
          intro h3
          have h4 := (unhide HR4 _ (by omega)).1 h3
          rw [show (((l.getD 0 0).toNat : Nat) : Int) = l.getD 0 0 by omega] at h4
          exact h2 h4
        obtain ⟨f, hf, hfn, hfR⟩ := hf0
        have HFR := hide hfR
        have HLC4 : Hid (∀ j, j < m → w4.cell? ⟨gl, j, none⟩ = some (.int .i64 (l.getD j 0))) := fun j hj => (b4.cell (by exact hgl3)).trans (unhide HLC j (by rw [← unhide HM]; exact hj))
        have HP4 : Hid (∀ j, j < n → w4.cell? ⟨w0.heap.size, j, none⟩ = some (.int .i64 (P.getD j 0))) := fun j hj => by
          have h := ((unhide HB).below b3 hg0).below b4 (Nat.lt_of_lt_of_le hg0 hs3)
          rw [h.cell j, ints_get _ _ (by rw [unhide Hn]; exact hj)]
        clear r4 r2 r1 hf hfR HLC
        go_wp2
        go_loopw [8, 9] (fun a s wr => ∃ (i : Nat) (ab : Bool), i ≤ n ∧ s = .int .i64 i ∧ a = .bool ab ∧ w4 = wr ∧ Hid (f < i → ab = false)) (fun _ s _ => n - (intOf s).toNat)
        case atStart => exact ⟨0, true, Nat.zero_le _, rfl, rfl, rfl, hide (fun h => by omega)⟩
        case round =>
          obtain ⟨i, ab, hin2, rfl, rfl, rfl, HAB⟩ := hrel
          by_cases hlt2 : i < n
          · obtain ⟨rb, hrb⟩ : ∃ r, r = R.getD i false := ⟨_, rfl⟩
            have hci : w4.cell? ⟨gR, i, none⟩ = some (.bool rb) := by
              rw [(unhide HR2).cell i, bools_get _ _ (by rw [unhide HR1]; exact hlt2), hrb]
            have d1 : (i : Int) < n := by omega
            have HRB := hide hrb
            clear hrb
            cases rb with
            | true =>
              go_wp2
              go_roundw
              case rel =>
                go_light
                refine ⟨i + 1, ab, by omega, by go_num, rfl, trivial, hide (fun h => ?_)⟩
                by_cases e : f = i
                · subst e
                  have := unhide HFR
                  rw [← unhide HRB] at this
                  cases this
                · exact unhide HAB (by omega)
              case measure => go_light; simp [intOf]; omega
            | false =>
              go_wp2
              go_roundw
              case rel => exact ⟨i + 1, false, by omega, by go_num, rfl, trivial, hide (fun _ => rfl)⟩
              case measure => go_light; simp [intOf]; omega
          · have hab : ab = false := unhide HAB (by omega)
            subst hab
            have dm : ((m : Int) == 0) = false := beq_eq_false_iff_ne.2 (by omega)
            clear HAB
            go_wp2_with (at_make; refine wpList_make_full _ rfl _ _ 31 rfl w4.heap.size 4 j0 (.bool false) 1 Trym.underlying31 ki kz0 kz1 .i64 .i64 _ _ n rfl rfl rfl rfl ?c1 ?c2 ?c3 ?_)
            case c1 => rw [kz2]; omega
            case c2 => unfold maxLen; omega
            case c3 => exact Nat.le_refl _
            intro w5 hown5 hgrow5
            have hb5 : Below w4.heap.size w4 w5 := (Below.refl _ _).grown hgrow5 (Nat.le_refl _) (fun k h => by cases h)
            have hblk5 : IsBlk w5 w4.heap.size 4 (bools (List.replicate n false)) := by
              have h2 := blk_of_own hown5
              rw [toList_madeCells_one] at h2
              have e : List.replicate n (Value.bool false) = bools (List.replicate n false) := by simp [bools]
              rw [e] at h2
              exact h2
            have HB5 := hide hblk5
            clear hown5 hgrow5 hblk5
            go_wp2
            go_loopw [11] (fun s wr => ∃ (k : Nat) (S : List Bool), k ≤ m ∧ s = .int .i64 k ∧ S.length = n ∧ IsBlk wr w4.heap.size 4 (bools S) ∧ Below w4.heap.size w4 wr ∧ Hid (∀ t : Nat, t < n → S.getD t false = true → ∃ k', k' < k ∧ l.getD k' 0 = (t : Int))) (fun s _ => m - (intOf s).toNat)
            case atStart =>
              refine ⟨0, List.replicate n false, Nat.zero_le _, rfl, by simp, unhide HB5, hb5, hide (fun t ht h => ?_)⟩
              simp [List.getD, ht] at h
            case round =>
              obtain ⟨k, S, hkm, rfl, hSl, hbS, hbw, HSO⟩ := hrel
              have hlen := unhide HM
              by_cases hltk : k < m
              · have hrg := (unhide HQ).range k (by omega)
                rw [unhide Hn] at hrg
                obtain ⟨d, hd⟩ := Int.eq_ofNat_of_zero_le hrg.1
                have hdn : d < n := by omega
                have hck := (hbw.cell (p := ⟨gl, k, none⟩) (by show gl < w4.heap.size; omega)).trans (unhide HLC4 k hltk)
                have hc0 := (hbw.cell (p := ⟨gl, 0, none⟩) (by show gl < w4.heap.size; omega)).trans (unhide HLC4 0 (by omega))
                rw [hd] at hck
                obtain ⟨f0, hf0⟩ : ∃ f0, f0 = l.getD 0 0 := ⟨_, rfl⟩
                rw [← hf0] at hc0
                have hge := (unhide HQ).least k (by omega)
                rw [hd, ← hf0] at hge
                have hSd : S.getD d false = false := by
                  rw [Bool.eq_false_iff]
                  intro h
                  obtain ⟨k', h1, h2⟩ := unhide HSO d hdn h
                  exact (unhide HQ).inj k' k h1 (by omega) (by rw [h2, hd])
                have hcs : wr.cell? ⟨w4.heap.size, d, none⟩ = some (.bool false) := by
                  rw [hbS.cell d, bools_get _ _ (by omega), hSd]
                have hfs := hbS.frozen d
                have HD := hide hd
                have HST := hide (hbS.set d (.bool true))
                have HBS := hide hbS
                have x1 : ¬ (d : Int) < 0 := by omega
                have x2 : ¬ (n : Int) ≤ d := by omega
                have x3 : ¬ (d : Int) < f0 := by omega
                have x4 : (k : Int) < m := by omega
                have x5 : (0 : Int) < m := by omega
                have x6 : (d : Int) < n := by omega
                clear hd hf0 hSd hbS hrg hlen
                go_wp2
                go_roundw
                case rel =>
                  go_light
                  refine ⟨k + 1, S.set d true, by omega, by go_num, by simp [hSl], ?_, hbw.setCell (Nat.le_refl _) _, hide (fun t ht h => ?_)⟩
                  · have := unhide HST
                    rw [bools_set] at this
                    exact this
                  · rw [getD_set _ _ _ _ _ (by omega)] at h
                    by_cases e : d = t
                    · subst e
                      exact ⟨k, by omega, unhide HD⟩
                    · rw [if_neg e] at h
                      obtain ⟨k', h1, h2⟩ := unhide HSO t ht h
                      exact ⟨k', by omega, h2⟩
                case measure => go_light; simp [intOf]; omega
              · have x4 : ¬ (k : Int) < m := by omega
                obtain ⟨w6, hw6⟩ : ∃ w6, w6 = wr := ⟨_, rfl⟩
                subst hw6
                clear hlen hbS HSO hSl
                go_wp2
                go_loopw [14] (fun s wx => ∃ k q : Nat, k ≤ m ∧ s = .int .i64 k ∧ wx = w6.drewN q) (fun s _ => m - (intOf s).toNat)
                case atStart => exact ⟨0, 0, Nat.zero_le _, rfl, rfl⟩
                case round =>
                  obtain ⟨k2, q, hk2, rfl, rfl⟩ := hrel
                  have hlen := unhide HM
                  by_cases hlt3 : k2 < m
                  · obtain ⟨r, hr⟩ : ∃ r, r = (k2 + 1) % m := ⟨_, rfl⟩
                    have hrm : r < m := by rw [hr]; exact Nat.mod_lt _ (by omega)
                    have hrg := (unhide HQ).range r (by omega)
                    rw [unhide Hn] at hrg
                    obtain ⟨d, hd⟩ := Int.eq_ofNat_of_zero_le hrg.1
                    have hdn : d < n := by omega
                    obtain ⟨y, hy⟩ : ∃ y, y = l.getD k2 0 := ⟨_, rfl⟩
                    have hnx := (unhide HQ).next k2 (by omega)
                    rw [← hlen, ← hr, hd, Int.toNat_natCast, ← hy] at hnx
                    have hck := (hbw.cell (p := ⟨gl, k2, none⟩) (by show gl < w4.heap.size; omega)).trans (unhide HLC4 k2 hlt3)
                    have hcr := (hbw.cell (p := ⟨gl, r, none⟩) (by show gl < w4.heap.size; omega)).trans (unhide HLC4 r hrm)
                    have hcp := (hbw.cell (p := ⟨w0.heap.size, d, none⟩) (by show w0.heap.size < w4.heap.size; omega)).trans (unhide HP4 d hdn)
                    rw [hd] at hcr
                    rw [← hy] at hck
                    rw [hnx] at hcp
                    have hrI : ((k2 : Int) + 1) % (m : Int) = (r : Int) := by rw [hr]; simp
                    have hrT : ((k2 : Int) + 1).tmod (m : Int) = (r : Int) := by rw [Int.tmod_eq_emod_of_nonneg (by omega)]; exact hrI
                    have x1 : (y != y) = false := by simp
                    have x2 : (k2 : Int) < m := by omega
                    have x3 : (r : Int) < m := by omega
                    have x4 : (d : Int) < n := by omega
                    have x5 : ((m : Int) == 0) = false := beq_eq_false_iff_ne.2 (by omega)
                    clear hd hy hnx hrg hr hlen
                    go_wp2
                    go_quiet (fail)
                    go_wp2
                    go_roundw
                    case rel =>
                      go_light
                      exact ⟨k2 + 1, _, by omega, by go_num, rfl⟩
                    case measure => go_light; simp [intOf]; omega
                  · have x7 : ¬ (k2 : Int) < m := by omega
                    go_wp2
                    go_ret
                    exact ⟨rfl, (hbelz.trans (hbw.mono hbelz.size)).trans (below_draws _ _ _)⟩

end Go.Proofs.Qxb6600042aMods
