import Derived.Test.Qxb6600042aModsLvl
namespace Go.Proofs.Qxb6600042aMods
open Go.RowKit Go.WideMaps Go.Maps

/-- A row of n switches as cells: the first k bear their children. -/
structure Row5 (l : List Value) (n k : Nat) (A : Nat → Option Addr) (Ln C : Nat → Nat) : Prop where
  len : l.length = n * 5
  c0 : ∀ i, i < n → l[i * 5]? = some (.int .i64 0)
  c1 : ∀ i, i < n → l[i * 5 + 1]? = some (.slice none 0 0)
  c2 : ∀ i, i < n → l[i * 5 + 2]? = some (.string ByteArray.empty)
  c3 : ∀ i, i < n → l[i * 5 + 3]? = some (if i < k then .slice (A i) (Ln i) (C i) else .slice none 0 0)
  c4 : ∀ i, i < n → l[i * 5 + 4]? = some (.slice none 0 0)

theorem Row5.set {l : List Value} {n k : Nat} {A : Nat → Option Addr} {Ln C : Nat → Nat} (h : Row5 l n k A Ln C) (hk : k < n) : Row5 (l.set (k * 5 + 3) (.slice (A k) (Ln k) (C k))) n (k + 1) A Ln C := by
  have hl := h.len
  refine ⟨by simp [hl], fun i hi => ?_, fun i hi => ?_, fun i hi => ?_, fun i hi => ?_, fun i hi => ?_⟩
  · rw [List.getElem?_set_ne (by omega)]; exact h.c0 i hi
  · rw [List.getElem?_set_ne (by omega)]; exact h.c1 i hi
  · rw [List.getElem?_set_ne (by omega)]; exact h.c2 i hi
  · by_cases e : i = k
    · subst e
      rw [if_pos (by omega), List.getElem?_set_self (by omega)]
    · rw [List.getElem?_set_ne (by omega), h.c3 i hi]
      by_cases hik : i < k
      · rw [if_pos hik, if_pos (by omega)]
      · rw [if_neg hik, if_neg (by omega)]
  · rw [List.getElem?_set_ne (by omega)]; exact h.c4 i hi

theorem made5 (n : Nat) (A : Nat → Option Addr) (Ln C : Nat → Nat) : Row5 (madeCells #[.int .i64 0, .slice none 0 0, .string ByteArray.empty, .slice none 0 0, .slice none 0 0] (n * 5)).toList n 0 A Ln C := by
  have hg : ∀ k, k < n * 5 → (madeCells #[Value.int .i64 0, .slice none 0 0, .string ByteArray.empty, .slice none 0 0, .slice none 0 0] (n * 5)).toList[k]? = some (#[Value.int .i64 0, .slice none 0 0, .string ByteArray.empty, .slice none 0 0, .slice none 0 0][k % 5]!) := by
    intro k hk
    simp [madeCells, hk]
  refine ⟨by simp [madeCells], fun i hi => ?_, fun i hi => ?_, fun i hi => ?_, fun i hi => ?_, fun i hi => ?_⟩
  · rw [hg _ (by omega), show i * 5 % 5 = 0 by omega]; rfl
  · rw [hg _ (by omega), show (i * 5 + 1) % 5 = 1 by omega]; rfl
  · rw [hg _ (by omega), show (i * 5 + 2) % 5 = 2 by omega]; rfl
  · rw [hg _ (by omega), show (i * 5 + 3) % 5 = 3 by omega, if_neg (by omega)]; rfl
  · rw [hg _ (by omega), show (i * 5 + 4) % 5 = 4 by omega]; rfl

theorem blk_of_own5 {w : World} {base e g n : Nat} {xs : List Value} (h : w.ownsRow base e 5 (.slice (some ⟨g, 0, none⟩) n n) n xs) : IsBlk w g e xs := by
  rcases h.2 with ⟨h', _⟩ | ⟨g', cap, cur, h', _, hh, _, _, hs, ht⟩
  · cases h'
  · cases h'
    unfold IsBlk
    rw [hh, ← ht]
    congr 2
    apply Array.ext'
    simp
    rw [List.take_of_length_le (by simp; omega)]

set_option maxHeartbeats 2000000 in
set_option maxRecDepth 100000 in
/-- ZZswitchLevels. -/
theorem zzlev_any (p : Option Addr) (n c gm : Nat) (S : Nat → ByteArray) (A : Nat → Option Addr) (Ln C : Nat → Nat) (T : Nat → Nat → ByteArray) (w : World) (hnm : n ≤ 131072)
    (hr : ShowsR w p n A Ln C) (hm : w.ownsMap Trym.prog 9 (plainElem Trym.prog 3) gm n (byN S n)) (hT : ∀ i, i < n → ShowsS w (A i) (Ln i) (T i)) (hL : ∀ i, i < n → Ln i ≤ 131072) (hTs : ∀ i, i < n → ∀ j, j < Ln i → (T i j).size ≤ maxLen) :
    Calls Trym.prog 10 #[.slice p n c, .map (some gm)] w fun e w' => ∃ g L, e = .returned (.slice (some ⟨g, 0, none⟩) n n) ∧ IsBlk w' g 3 (ints L) ∧ w.heap.size ≤ g ∧ Levs (gr S n Ln T) n L ∧ Below w.heap.size w w' := by
  have HR := hide hr
  have HM := hide hm
  have HT := hide hT
  have HL := hide hL
  have HTS := hide hTs
  clear hr hm hT hL hTs
  obtain ⟨i38, gi, gz0, gz1, gz2⟩ := info_parts Trym.info38
  go_enter Trym.func10, Trym.ntmps10
  go_wp2_with (at_make; refine wpList_make_full _ rfl _ _ 33 rfl w.heap.size 38 i38 _ 5 Trym.underlying33 gi gz0 gz1 .i64 .i64 _ _ n rfl rfl rfl rfl ?c1 ?c2 ?c3 ?_)
  case c1 => rw [gz2]; omega
  case c2 => unfold maxLen; omega
  case c3 => exact Nat.le_refl _
  intro w1 hown1 hgrow1
  have hbel1 : Below w.heap.size w w1 := (Below.refl _ _).grown hgrow1 (Nat.le_refl _) (fun k h => by cases h)
  have HB := hide (blk_of_own5 hown1)
  have HR5 := hide (made5 n A Ln C)
  clear hown1 hgrow1 gi gz0 gz1 gz2
  go_wp2
  go_loopw [12] (fun x wr => ∃ (i : Nat) (l : List Value), i ≤ n ∧ x = .int .i64 i ∧ Hid (IsBlk wr w.heap.size 38 l) ∧ Hid (Row5 l n i A Ln C) ∧ Below w.heap.size w wr) (fun x _ => n - (intOf x).toNat)
  case atStart => exact ⟨0, _, Nat.zero_le _, rfl, HB, HR5, hbel1⟩
  case round =>
    obtain ⟨i, l, hin, rfl, HB2, HRW, hbel⟩ := hrel
    clear HB HR5 hbel1
    by_cases hlt : i < n
    · rcases unhide HR with h | ⟨b, o, rfl, hb, hc⟩
      · omega
      · have hcx := (hbel.cell (p := ⟨b, o + i, none⟩) (by exact hb)).trans (hc i hlt)
        have hcs := (unhide HB2).cell (i * 5 + 3)
        rw [(unhide HRW).c3 i hlt, if_neg (by omega)] at hcs
        have hfs := (unhide HB2).frozen (i * 5 + 3)
        have d1 : (i : Int) < n := by omega
        have HB3 := hide ((unhide HB2).set (i * 5 + 3) (.slice (A i) (Ln i) (C i)))
        have HRW3 := hide ((unhide HRW).set hlt)
        have hbel3 : Below w.heap.size w (wr.setCell ⟨w.heap.size, i * 5 + 3, none⟩ (.slice (A i) (Ln i) (C i))) := hbel.setCell (Nat.le_refl _) _
        obtain ⟨ap, eap⟩ : ∃ a, a = A i := ⟨_, rfl⟩
        obtain ⟨lk, elk⟩ : ∃ a, a = Ln i := ⟨_, rfl⟩
        obtain ⟨ck, eck⟩ : ∃ a, a = C i := ⟨_, rfl⟩
        rw [← eap, ← elk, ← eck] at hcx HB3 HRW3 hbel3
        clear eap elk eck hc
        go_wp2
        go_roundw
        case rel => exact ⟨i + 1, _, by omega, by go_num, HB3, HRW3, hbel3⟩
        case measure => go_light; simp [intOf]; omega
    · have d1 : ¬ (i : Int) < n := by omega
      have hin2 : i = n := by omega
      have hsw : Sws wr w.heap.size n A Ln C := by
        have hb := unhide HB2
        have hr := unhide HRW
        rw [hin2] at hr
        refine ⟨hb.lt, fun j hj => ?_, fun j hj => ?_, fun j hj => ?_, fun j hj => ?_, fun j hj => ?_⟩
        · rw [hb.cell]; exact hr.c0 j hj
        · rw [hb.cell]; exact hr.c1 j hj
        · rw [hb.cell]; exact hr.c2 j hj
        · rw [hb.cell, hr.c3 j hj, if_pos hj]
        · rw [hb.cell]; exact hr.c4 j hj
      have HC := hide (levels_any w.heap.size gm n S A Ln C T wr hnm hsw (owns_below (unhide HM) hbel (unhide HM).lt) (fun j hj => (unhide HT j hj).below hbel (Nat.le_refl _)) (unhide HL) (unhide HTS))
      clear hsw
      go_wp2_with fail
      refine (unhide HC).mono ?_
      rintro e w4 ⟨g, L, rfl, h1, h2, h3, h4⟩
      have hs := hbel.size
      have HL4 := hide h3
      have HB4 := hide h1
      clear h1 h3
      go_wp2
      go_ret
      exact ⟨g, L, rfl, unhide HB4, by omega, unhide HL4, hbel.trans (h4.mono hs)⟩

end Go.Proofs.Qxb6600042aMods
