import Derived.Test.Qxb6600042aModsZsl
import Derived.Deep.QuietTactic
import Derived.BigQuiet
namespace Go.Proofs.Qxb6600042aMods
open Go.RowKit Go.WideMaps Go.Maps

theorem Trym.info9 : (Trym.prog.info? 9).map (fun i => (i.zero, i.size, i.bytes)) = some (some (.string ByteArray.empty), 1, 16) := by kernel_rfl
theorem Trym.info22 : (Trym.prog.info? 22).map (fun i => (i.zero, i.size, i.bytes)) = some (some (.slice none 0 0), 1, 24) := by kernel_rfl

theorem gr_rev (S R : Nat → ByteArray) (n : Nat) (Ln Ln' : Nat → Nat) (T T' : Nat → Nat → ByteArray) (hd : ∀ j i, j < i → i < n → S j ≠ S i) (hR : ∀ i, i < n → R (n - 1 - i) = S i)
    (hL : ∀ i, i < n → Ln' (n - 1 - i) = Ln i) (hT : ∀ i, i < n → T' (n - 1 - i) = T i) (i : Nat) (hi : i < n) : gr R n Ln' T' (n - 1 - i) = (gr S n Ln T i).map (Option.map (n - 1 - ·)) := by
  unfold gr
  rw [hL i hi, hT i hi, List.map_map]
  apply List.map_congr_left
  intro j _
  exact lastIx_rev S R n (T i j) hd hR

theorem made_row (n : Nat) (v : Value) : (madeCells #[v] n).toList = row n (fun _ => v) := by
  rw [toList_madeCells_one]
  apply List.ext_getElem (by simp [row])
  intro t _ _
  simp [row]

set_option maxHeartbeats 4000000 in
set_option maxRecDepth 100000 in
theorem lawF (p q : Option Addr) (n c m d : Nat) (S : Nat → ByteArray) (A : Nat → Option Addr) (Ln C : Nat → Nat) (T : Nat → Nat → ByteArray) (w : World) (hn : n ≤ 9223372036854775807) (hm : m ≤ 9223372036854775807)
    (hs : ShowsS w p n S) (hr : ShowsR w q m A Ln C) (ht : ∀ i, i < m → ShowsS w (A i) (Ln i) (T i)) (hS : ∀ i, i < n → (S i).size ≤ maxLen) (hL : ∀ i, i < m → Ln i ≤ maxLen) (hT : ∀ i, i < m → ∀ j, j < Ln i → (T i j).size ≤ maxLen) :
    Calls Trym.prog 4 #[.slice p n c, .slice q m d] w fun e w' => e = .returned (.bool true) ∧ Below w.heap.size w w' := by
  have hmx : maxLen ≤ 9223372036854775807 := by unfold maxLen; omega
  have H12 := hide (zz12 p q n c m d S A Ln C T w hn hm hs hr ht (fun i hi => Nat.le_trans (hS i hi) hmx) (fun i hi => Nat.le_trans (hL i hi) hmx) (fun i hi j hj => Nat.le_trans (hT i hi j hj) hmx))
  have H8 := hide (big8 p q n c m d S A Ln C T w hn hm hs hr ht (fun i hi => Nat.le_trans (hS i hi) hmx) (fun i hi => Nat.le_trans (hL i hi) hmx) (fun i hi j hj => Nat.le_trans (hT i hi j hj) hmx))
  have HS := hide hs
  have HR := hide hr
  have HT := hide ht
  have HSS := hide hS
  have HTS := hide hT
  clear hs hr ht hS hL hT
  go_enter Trym.func4, Trym.ntmps4
  go_wp2_with fail
  refine (unhide H12).mono ?_
  rintro e w0 ⟨⟨b, rfl, _⟩, rfl⟩
  cases b with
  | false =>
    go_wp2
    go_ret
    exact ⟨rfl, Below.refl _ _⟩
  | true =>
  go_wp2_with fail
  refine (unhide H8).mono ?_
  rintro e w1 ⟨⟨b, rfl, hbd⟩, rfl⟩
  cases b with
  | true =>
    go_wp2
    go_ret
    exact ⟨rfl, Below.refl _ _⟩
  | false =>
  obtain ⟨hnb, hmb, hLb⟩ := hbd rfl
  have HLb := hide hLb
  clear hbd hLb
  by_cases hnm : n = m
  · subst hnm
    have e1 : ((n : Int) != n) = false := by simp
    have H9 := hide (byName_any p n c S w1 (by omega) (unhide HS) (unhide HSS))
    go_wp2_with fail
    refine (unhide H9).mono ?_
    rintro e w2 ⟨rfl, hown2, hb2⟩
    have hs2 := hb2.size
    have hgm := hown2.lt
    by_cases hsz : Maps.size (byN S n) = n
    · have e2 : ((Maps.size (byN S n) : Int) != n) = false := by rw [hsz]; simp
      have hdist := size_full S n hsz
      have HDI := hide hdist
      have HO2 := hide hown2
      obtain ⟨i9, gi, gz0, gz1, gz2⟩ := info_parts Trym.info9
      obtain ⟨i22, ki, kz0, kz1, kz2⟩ := info_parts Trym.info22
      clear hdist hown2
      go_wp2_with (first | (at_len; refine wpList_len_own _ rfl _ 25 rfl 9 3 Trym.underlying25 _ w1.heap.size n (byN S n) rfl (unhide HO2) ?_) | (at_make; refine wpList_make_full _ rfl _ _ 22 rfl w2.heap.size 9 i9 (.string ByteArray.empty) 1 Trym.underlying22 gi gz0 gz1 .i64 .i64 _ _ n rfl rfl rfl rfl ?c1 ?c2 ?c3 ?_))
      case c1 => rw [gz2]; omega
      case c2 => unfold maxLen; omega
      case c3 => exact Nat.le_refl _
      intro w3 hown3 hgrow3
      have hb3 : Below w2.heap.size w2 w3 := (Below.refl _ _).grown hgrow3 (Nat.le_refl _) (fun k h => by cases h)
      have hs3 := hb3.size
      go_wp2_with (at_make; refine wpList_make_full _ rfl _ _ 23 rfl w3.heap.size 22 i22 (.slice none 0 0) 1 Trym.underlying23 ki kz0 kz1 .i64 .i64 _ _ n rfl rfl rfl rfl ?c1 ?c2 ?c3 ?_)
      case c1 => rw [kz2]; omega
      case c2 => unfold maxLen; omega
      case c3 => exact Nat.le_refl _
      intro w4 hown4 hgrow4
      have hb4 : Below w2.heap.size w2 w4 := hb3.grown hgrow4 hs3 (fun k h => by cases h)
      have hlt3 := (hown3.lt w2.heap.size rfl).2
      have hlt4 := (hown4.lt w3.heap.size rfl).2
      have hbN : IsBlk w4 w2.heap.size 9 (row n (fun _ => .string ByteArray.empty)) := by
        have h := (blk_of_own hown3).kept hgrow4 (by simp)
        rw [← made_row]
        exact h
      have hbC : IsBlk w4 w3.heap.size 22 (row n (fun _ => .slice none 0 0)) := by
        have h := blk_of_own hown4
        rw [← made_row]
        exact h
      have HBN := hide hbN
      have HBC := hide hbC
      obtain ⟨gC, hgC⟩ : ∃ g, g = w3.heap.size := ⟨_, rfl⟩
      rw [← hgC] at HBC hlt3 hlt4 ⊢
      clear hown3 hgrow3 hown4 hgrow4 hbN hbC gi gz0 gz1 gz2 ki kz0 kz1 kz2 hgC hb3 hs3
      go_wp2
      go_loopw [9] (fun x wr => ∃ (i : Nat) (VN VC : Nat → Value), i ≤ n ∧ x = .int .i64 i ∧ Hid (IsBlk wr w2.heap.size 9 (row n VN)) ∧ Hid (IsBlk wr gC 22 (row n VC)) ∧ Below w2.heap.size w2 wr ∧ Hid (∀ k, k < i → VN (n - 1 - k) = .string (S k)) ∧ Hid (∀ k, k < i → VC (n - 1 - k) = .slice (A k) (Ln k) (C k))) (fun x _ => n - (intOf x).toNat)
      case atStart => exact ⟨0, _, _, Nat.zero_le _, rfl, HBN, HBC, hb4, hide (fun k hk => by omega), hide (fun k hk => by omega)⟩
      case round =>
        obtain ⟨i, VN, VC, hin, rfl, HN, HC, hbw, HVN, HVC⟩ := hrel
        clear HBN HBC hb4
        have hbz : Below w1.heap.size w1 wr := hb2.trans (hbw.mono hs2)
        by_cases hlt : i < n
        · rcases unhide HS with h | ⟨b, o, rfl, hb, hc⟩
          · omega
          · rcases unhide HR with h | ⟨b', o', rfl, hb', hc'⟩
            · omega
            · obtain ⟨t, ht⟩ : ∃ t, t = n - 1 - i := ⟨_, rfl⟩
              have htn : t < n := by omega
              have hti : (n : Int) - 1 - i = (t : Int) := by omega
              have hcs := (hbz.cell (p := ⟨b, o + i, none⟩) (by exact hb)).trans (hc i hlt)
              have hcr := (hbz.cell (p := ⟨b', o' + i, none⟩) (by exact hb')).trans (hc' i hlt)
              obtain ⟨s, es⟩ : ∃ s, s = S i := ⟨_, rfl⟩
              obtain ⟨ap, eap⟩ : ∃ a, a = A i := ⟨_, rfl⟩
              obtain ⟨lk, elk⟩ : ∃ a, a = Ln i := ⟨_, rfl⟩
              obtain ⟨ck, eck⟩ : ∃ a, a = C i := ⟨_, rfl⟩
              rw [← es] at hcs
              rw [← eap, ← elk, ← eck] at hcr
              have hc1 := (unhide HN).cell t
              rw [row_get _ _ _ htn] at hc1
              have hf1 := (unhide HN).frozen t
              have n1 := (unhide HN).set t (.string s)
              rw [row_set] at n1
              have c1 := (unhide HC).kept (grown_set wr w2.heap.size t (.string s)) (by simp; omega)
              have hc2 := c1.cell t
              rw [row_get _ _ _ htn] at hc2
              have hf2 := c1.frozen t
              have hcr2 : (wr.setCell ⟨w2.heap.size, t, none⟩ (.string s)).cell? ⟨b', o' + i, none⟩ = some (.slice ap lk ck) := by
                have hbx : Below w2.heap.size wr (wr.setCell ⟨w2.heap.size, t, none⟩ (.string s)) := Below.setCell (Below.refl w2.heap.size wr) (by exact Nat.le_refl w2.heap.size) _
                exact (hbx.cell (p := ⟨b', o' + i, none⟩) (by show b' < w2.heap.size; omega)).trans hcr
              have c2 := c1.set t (.slice ap lk ck)
              rw [row_set] at c2
              have n2 := n1.kept (grown_set _ gC t (.slice ap lk ck)) (by simp; omega)
              have hbw2 : Below w2.heap.size w2 ((wr.setCell ⟨w2.heap.size, t, none⟩ (.string s)).setCell ⟨gC, t, none⟩ (.slice ap lk ck)) := (hbw.setCell (Nat.le_refl _) _).setCell (by show w2.heap.size ≤ gC; omega) _
              have HN2 := hide n2
              have HC2 := hide c2
              obtain ⟨vn, evn⟩ : ∃ v, v = VN t := ⟨_, rfl⟩
              obtain ⟨vc, evc⟩ : ∃ v, v = VC t := ⟨_, rfl⟩
              rw [← evn] at hc1
              rw [← evc] at hc2
              have d1 : (i : Int) < n := by omega
              have HES := hide es
              have HEA := hide eap
              have HEL := hide elk
              have HEC := hide eck
              have HTT := hide ht
              clear es eap elk eck n1 n2 c1 c2 hc hc' evn evc ht
              go_wp2
              go_roundw
              case rel =>
                go_light
                refine ⟨i + 1, _, _, by omega, by go_num, HN2, HC2, hbw2, hide (fun k hk => ?_), hide (fun k hk => ?_)⟩
                · by_cases e : k = i
                  · subst e; rw [← unhide HTT, upd_same, unhide HES]
                  · rw [upd_other _ _ _ _ (by have := unhide HTT; omega)]; exact unhide HVN k (by omega)
                · by_cases e : k = i
                  · subst e; rw [← unhide HTT, upd_same, unhide HEA, unhide HEL, unhide HEC]
                  · rw [upd_other _ _ _ _ (by have := unhide HTT; omega)]; exact unhide HVC k (by omega)
              case measure => go_light; simp [intOf]; omega
        · have hin2 : i = n := by omega
          have d1 : ¬ (i : Int) < n := by omega
          have hsN : ShowsS wr (some ⟨w2.heap.size, 0, none⟩) n (fun t => S (n - 1 - t)) := .inr ⟨_, 0, rfl, (unhide HN).lt, fun k hk => by
            rw [Nat.zero_add, (unhide HN).cell k, row_get _ _ _ hk]
            have := unhide HVN (n - 1 - k) (by omega)
            rw [show n - 1 - (n - 1 - k) = k by omega] at this
            rw [this]⟩
          have hsC : ShowsR wr (some ⟨gC, 0, none⟩) n (fun t => A (n - 1 - t)) (fun t => Ln (n - 1 - t)) (fun t => C (n - 1 - t)) := .inr ⟨_, 0, rfl, (unhide HC).lt, fun k hk => by
            rw [Nat.zero_add, (unhide HC).cell k, row_get _ _ _ hk]
            have := unhide HVC (n - 1 - k) (by omega)
            rw [show n - 1 - (n - 1 - k) = k by omega] at this
            rw [this]⟩
          have H9b := hide (byName_any (some ⟨w2.heap.size, 0, none⟩) n n (fun t => S (n - 1 - t)) wr (by omega) hsN (fun i hi => unhide HSS (n - 1 - i) (by omega)))
          have HSC := hide hsC
          clear hsN hsC HVN HVC HN HC
          go_wp2_with fail
          refine (unhide H9b).mono ?_
          rintro e w5 ⟨rfl, hown5, hb5⟩
          have hsz := hbz.size
          have hs5 := hb5.size
          have hbz5 : Below w1.heap.size w1 w5 := hbz.trans (hb5.mono hsz)
          have hbw5 : Below w2.heap.size w2 w5 := hbw.trans (hb5.mono hbw.size)
          have hlt5 := hown5.lt
          have H10 := hide (zzlev_any q n d w1.heap.size S A Ln C T w5 hnb ((unhide HR).below hbz5 (Nat.le_refl _)) (owns_below (unhide HO2) hbw5 hgm) (fun i hi => (unhide HT i hi).below hbz5 (Nat.le_refl _)) (unhide HLb) (unhide HTS))
          have HO5 := hide hown5
          clear hown5
          go_wp2_with fail
          refine (unhide H10).mono ?_
          rintro e w6 ⟨g1, L1, rfl, k1, k2, k3, hb6⟩
          have hs6 := hb6.size
          have hbz6 : Below w1.heap.size w1 w6 := hbz5.trans (hb6.mono hbz5.size)
          have hbr6 : Below wr.heap.size wr w6 := hb5.trans (hb6.mono hs5)
          have H10b := hide (zzlev_any (some ⟨gC, 0, none⟩) n n wr.heap.size (fun t => S (n - 1 - t)) (fun t => A (n - 1 - t)) (fun t => Ln (n - 1 - t)) (fun t => C (n - 1 - t)) (fun t => T (n - 1 - t)) w6 hnb ((unhide HSC).below hbr6 (Nat.le_refl _)) (owns_below (unhide HO5) hb6 hlt5) (fun i hi => (unhide HT (n - 1 - i) (by omega)).below hbz6 (Nat.le_refl _)) (fun i hi => unhide HLb (n - 1 - i) (by omega)) (fun i hi => unhide HTS (n - 1 - i) (by omega)))
          have HK1 := hide k1
          have HK3 := hide k3
          clear k1 k3
          go_wp2_with fail
          refine (unhide H10b).mono ?_
          rintro e w7 ⟨g2, L2, rfl, m1, m2, m3, hb7⟩
          have hbz7 : Below w1.heap.size w1 w7 := hbz6.trans (hb7.mono hbz6.size)
          have heq : ∀ i, i < n → L1.getD i 0 = L2.getD (n - 1 - i) 0 := fun i hi =>
            levs_rev (unhide HK3) m3 (fun i _ d hd => gr_lt S n Ln T i d hd) (fun i hi => gr_rev S _ n Ln _ T _ (unhide HDI) (fun i hi => by show S (n - 1 - (n - 1 - i)) = S i; rw [show n - 1 - (n - 1 - i) = i by omega]) (fun i hi => by show Ln (n - 1 - (n - 1 - i)) = Ln i; rw [show n - 1 - (n - 1 - i) = i by omega]) (fun i hi => by show T (n - 1 - (n - 1 - i)) = T i; rw [show n - 1 - (n - 1 - i) = i by omega]) i hi) i hi
          have HEQ := hide heq
          have HB1 := hide ((unhide HK1).below hb7 (unhide HK1).lt)
          have HB2 := hide m1
          have hl1 := (unhide HK3).len
          have hl2 := m3.len
          clear heq m1 m3
          go_wp2
          go_loopw [13] (fun s wx => ∃ k q : Nat, k ≤ n ∧ s = .int .i64 k ∧ wx = w7.drewN q) (fun s _ => n - (intOf s).toNat)
          case atStart => exact ⟨0, 0, Nat.zero_le _, rfl, rfl⟩
          case round =>
            obtain ⟨k, q, hk, rfl, rfl⟩ := hrel
            by_cases hltk : k < n
            · obtain ⟨t, ht⟩ : ∃ t, t = n - 1 - k := ⟨_, rfl⟩
              have hti : (n : Int) - 1 - k = (t : Int) := by omega
              have htn : t < n := by omega
              obtain ⟨y, hy⟩ : ∃ y, y = L1.getD k 0 := ⟨_, rfl⟩
              have hc1 : w7.cell? ⟨g1, k, none⟩ = some (.int .i64 y) := by
                rw [(unhide HB1).cell k, ints_get _ _ (by omega), hy]
              have hc2 : w7.cell? ⟨g2, t, none⟩ = some (.int .i64 y) := by
                rw [(unhide HB2).cell t, ints_get _ _ (by omega), hy, unhide HEQ k hltk, ht]
              have x1 : (y != y) = false := by simp
              have x2 : (k : Int) < n := by omega
              have x3 : (t : Int) < n := by omega
              clear hy ht
              go_wp2
              go_quiet (fail)
              go_wp2
              go_roundw
              case rel =>
                go_light
                exact ⟨k + 1, _, by omega, by go_num, rfl⟩
              case measure => go_light; simp [intOf]; omega
            · have x2 : ¬ (k : Int) < n := by omega
              go_wp2
              go_ret
              exact ⟨rfl, hbz7.trans (below_draws _ _ _)⟩
    · have e2 : ((Maps.size (byN S n) : Int) != n) = true := by rw [bne_iff_ne]; omega
      go_wp2_with (at_len; refine wpList_len_own _ rfl _ 25 rfl 9 3 Trym.underlying25 _ w1.heap.size n (byN S n) rfl hown2 ?_)
      go_ret
      exact ⟨rfl, hb2⟩
  · have e1 : ((n : Int) != m) = true := by rw [bne_iff_ne]; omega
    go_wp2
    go_ret
    exact ⟨rfl, Below.refl _ _⟩

end Go.Proofs.Qxb6600042aMods
