import Derived.Test.Qxb6600042aModsSt
import Derived.Test.Qxb6600042aModsNam
import Derived.Test.Qxb6600042aModsKahn
import Derived.BigRegion
namespace Go.Proofs.Qxb6600042aMods
open Go.RowKit Go.WideMaps Go.Maps

theorem Trym.info38 : (Trym.prog.info? 38).map (fun i => (i.zero, i.size, i.bytes)) = some (some (.agg #[.int .i64 0, .slice none 0 0, .string ByteArray.empty, .slice none 0 0, .slice none 0 0]), 5, 96) := by kernel_rfl

/-- Block gs is a row of n switches; only their children are not nought. -/
structure Sws (w : World) (gs n : Nat) (A : Nat → Option Addr) (Ln C : Nat → Nat) : Prop where
  lt : gs < w.heap.size
  c0 : ∀ i, i < n → w.cell? ⟨gs, i * 5, none⟩ = some (.int .i64 0)
  c1 : ∀ i, i < n → w.cell? ⟨gs, i * 5 + 1, none⟩ = some (.slice none 0 0)
  c2 : ∀ i, i < n → w.cell? ⟨gs, i * 5 + 2, none⟩ = some (.string ByteArray.empty)
  c3 : ∀ i, i < n → w.cell? ⟨gs, i * 5 + 3, none⟩ = some (.slice (A i) (Ln i) (C i))
  c4 : ∀ i, i < n → w.cell? ⟨gs, i * 5 + 4, none⟩ = some (.slice none 0 0)

/-- The children of switch i, as indexes. -/
def gr (S : Nat → ByteArray) (n : Nat) (Ln : Nat → Nat) (T : Nat → Nat → ByteArray) (i : Nat) : List (Option Nat) := (List.range (Ln i)).map (fun j => lastIx S n (T i j))

theorem gr_length (S : Nat → ByteArray) (n : Nat) (Ln : Nat → Nat) (T : Nat → Nat → ByteArray) (i : Nat) : (gr S n Ln T i).length = Ln i := by simp [gr]
theorem gr_get (S : Nat → ByteArray) (n : Nat) (Ln : Nat → Nat) (T : Nat → Nat → ByteArray) (i j : Nat) (h : j < Ln i) : (gr S n Ln T i)[j]? = some (lastIx S n (T i j)) := by simp [gr, h]
theorem gr_lt (S : Nat → ByteArray) (n : Nat) (Ln : Nat → Nat) (T : Nat → Nat → ByteArray) (i d : Nat) (h : some d ∈ gr S n Ln T i) : d < n := by
  obtain ⟨j, _, e⟩ := List.mem_map.1 h
  exact (lastIx_lt S _ d n e).1

/-- The holders of switch d among the first i switches. -/
def hp (G : Nat → List (Option Nat)) : Nat → Nat → List Int
  | 0, _ => []
  | i + 1, d => hp G i d ++ List.replicate ((G i).count (some d)) (i : Int)
/-- Those of the first i switches that have no child. -/
def cnt (G : Nat → List (Option Nat)) : Nat → List Nat
  | 0 => []
  | i + 1 => if G i = [] then cnt G i ++ [i] else cnt G i
def nats (l : List Nat) : List Int := l.map (fun (x : Nat) => (x : Int))
theorem nats_length (l : List Nat) : (nats l).length = l.length := by simp [nats]
theorem nats_snoc (l : List Nat) (x : Nat) : nats (l ++ [x]) = nats l ++ [(x : Int)] := by simp [nats]

/-- .. and of the next one's first j children. -/
def hpj (G : Nat → List (Option Nat)) (i j d : Nat) : List Int := hp G i d ++ List.replicate (((G i).take j).count (some d)) (i : Int)
theorem hpj_zero (G : Nat → List (Option Nat)) (i d : Nat) : hpj G i 0 d = hp G i d := by simp [hpj]
theorem hpj_full (G : Nat → List (Option Nat)) (i d : Nat) : hpj G i (G i).length d = hp G (i + 1) d := by simp [hpj, hp]
theorem hpj_yes (G : Nat → List (Option Nat)) (i j d : Nat) (h : (G i)[j]? = some (some d)) : hpj G i (j + 1) d = hpj G i j d ++ [(i : Int)] := by
  unfold hpj
  rw [List.take_add_one, h, List.count_append]
  simp [List.replicate_succ']
theorem hpj_no (G : Nat → List (Option Nat)) (i j d : Nat) (c : Option Nat) (h : (G i)[j]? = some c) (hc : c ≠ some d) : hpj G i (j + 1) d = hpj G i j d := by
  unfold hpj
  rw [List.take_add_one, h, List.count_append]
  have : [c].count (some d) = 0 := by simp [hc]
  simp [this]
theorem hp_len (G : Nat → List (Option Nat)) (M : Nat) (d : Nat) : ∀ i, (∀ k, k < i → (G k).length ≤ M) → (hp G i d).length ≤ i * M
  | 0 => fun _ => by simp [hp]
  | i + 1 => fun h => by
    have h1 := hp_len G M d i (fun k hk => h k (by omega))
    have h2 := h i (by omega)
    have h3 : (G i).count (some d) ≤ (G i).length := List.count_le_length
    simp only [hp, List.length_append, List.length_replicate, Nat.succ_mul]
    omega
theorem hpj_len (G : Nat → List (Option Nat)) (M : Nat) (i j d : Nat) (h : ∀ k, k ≤ i → (G k).length ≤ M) : (hpj G i j d).length ≤ (i + 1) * M := by
  have h1 := hp_len G M d i (fun k hk => h k (by omega))
  have h2 := h i (by omega)
  have h3 : ((G i).take j).count (some d) ≤ ((G i).take j).length := List.count_le_length
  have h4 : ((G i).take j).length ≤ (G i).length := by simp; omega
  unfold hpj
  simp only [List.length_append, List.length_replicate, Nat.succ_mul]
  omega
theorem hp_count (G : Nat → List (Option Nat)) (d k : Nat) : ∀ i, (hp G i d).count (k : Int) = if k < i then (G k).count (some d) else 0
  | 0 => by simp [hp]
  | i + 1 => by
    simp only [hp, List.count_append, hp_count G d k i, List.count_replicate]
    by_cases e : k = i
    · subst e; simp
    · have e2 : ¬ ((i : Int) == (k : Int)) = true := by simp; omega
      rw [if_neg e2]
      by_cases h : k < i
      · rw [if_pos h, if_pos (by omega)]; omega
      · rw [if_neg h, if_neg (by omega)]
theorem hp_mem (G : Nat → List (Option Nat)) (d : Nat) (x : Int) : ∀ i, x ∈ hp G i d → ∃ k : Nat, k < i ∧ x = k
  | 0 => fun h => by simp [hp] at h
  | i + 1 => fun h => by
    rcases List.mem_append.1 h with h | h
    · obtain ⟨k, hk, e⟩ := hp_mem G d x i h
      exact ⟨k, by omega, e⟩
    · exact ⟨i, by omega, (List.mem_replicate.1 h).2⟩
theorem cnt_mem (G : Nat → List (Option Nat)) (x : Nat) : ∀ i, x ∈ cnt G i ↔ x < i ∧ G x = []
  | 0 => by simp [cnt]
  | i + 1 => by
    unfold cnt
    by_cases e : G i = []
    · rw [if_pos e, List.mem_append, cnt_mem G x i]
      constructor
      · rintro (h | h)
        · exact ⟨by omega, h.2⟩
        · obtain rfl : x = i := by simpa using h
          exact ⟨by omega, e⟩
      · rintro ⟨h1, h2⟩
        by_cases ex : x = i
        · right; simp [ex]
        · left; exact ⟨by omega, h2⟩
    · rw [if_neg e, cnt_mem G x i]
      constructor
      · rintro h; exact ⟨by omega, h.2⟩
      · rintro ⟨h1, h2⟩
        by_cases ex : x = i
        · subst ex; exact absurd h2 e
        · exact ⟨by omega, h2⟩
theorem cnt_nodup (G : Nat → List (Option Nat)) : ∀ i, (cnt G i).Nodup
  | 0 => by simp [cnt]
  | i + 1 => by
    unfold cnt
    by_cases e : G i = []
    · rw [if_pos e]
      refine List.nodup_append.2 ⟨cnt_nodup G i, by simp, fun x hx y hy => ?_⟩
      obtain rfl : y = i := by simpa using hy
      have := ((cnt_mem G x y).1 hx).1
      omega
    · rw [if_neg e]; exact cnt_nodup G i
theorem cnt_len (G : Nat → List (Option Nat)) : ∀ i, (cnt G i).length ≤ i
  | 0 => by simp [cnt]
  | i + 1 => by
    have := cnt_len G i
    unfold cnt
    split <;> simp <;> omega

theorem owns_below {B gm n : Nat} {D : DataW Unit} {w w' : World} (h : w.ownsMap Trym.prog 9 (plainElem Trym.prog 3) gm n D) (hb : Below B w w') (hB : gm < B) : w'.ownsMap Trym.prog 9 (plainElem Trym.prog 3) gm n D := by
  obtain ⟨es, clock, h1, h2⟩ := h
  exact ⟨es, clock, (hb.block gm hB).trans h1, h2⟩

set_option maxHeartbeats 4000000 in
set_option maxRecDepth 100000 in
theorem levels_any (gs gm n : Nat) (S : Nat → ByteArray) (A : Nat → Option Addr) (Ln C : Nat → Nat) (T : Nat → Nat → ByteArray) (w : World) (hnm : n ≤ 131072)
    (hsw : Sws w gs n A Ln C) (hm : w.ownsMap Trym.prog 9 (plainElem Trym.prog 3) gm n (byN S n)) (hT : ∀ i, i < n → ShowsS w (A i) (Ln i) (T i)) (hL : ∀ i, i < n → Ln i ≤ 131072) (hTs : ∀ i, i < n → ∀ j, j < Ln i → (T i j).size ≤ maxLen) :
    Calls Trym.prog 17 #[.slice (some ⟨gs, 0, none⟩) n n, .map (some gm)] w fun e w' => ∃ g L, e = .returned (.slice (some ⟨g, 0, none⟩) n n) ∧ IsBlk w' g 3 (ints L) ∧ w.heap.size ≤ g ∧ Levs (gr S n Ln T) n L ∧ Below w.heap.size w w' := by
  have HSW := hide hsw
  have HM := hide hm
  have HT := hide hT
  have HL := hide hL
  have HTS := hide hTs
  clear hsw hm hT hL hTs
  obtain ⟨i3, gi, gz0, gz1, gz2⟩ := info_parts Trym.info3
  obtain ⟨i27, ki, kz0, kz1, kz2⟩ := info_parts Trym.info27
  go_enter Trym.func17, Trym.ntmps17
  go_wp2_with (at_make; refine wpList_make_full _ rfl _ _ 27 rfl w.heap.size 3 i3 (.int .i64 0) 1 Trym.underlying27 gi gz0 gz1 .i64 .i64 _ _ n rfl rfl rfl rfl ?c1 ?c2 ?c3 ?_)
  case c1 => rw [gz2]; omega
  case c2 => unfold maxLen; omega
  case c3 => exact Nat.le_refl _
  intro w1 hown1 hgrow1
  have hbel1 : Below w.heap.size w w1 := (Below.refl _ _).grown hgrow1 (Nat.le_refl _) (fun k h => by cases h)
  have hs1 := hbel1.size
  go_wp2_with (at_make; refine wpList_make_full _ rfl _ _ 27 rfl w1.heap.size 3 i3 (.int .i64 0) 1 Trym.underlying27 gi gz0 gz1 .i64 .i64 _ _ n rfl rfl rfl rfl ?c1 ?c2 ?c3 ?_)
  case c1 => rw [gz2]; omega
  case c2 => unfold maxLen; omega
  case c3 => exact Nat.le_refl _
  intro w2 hown2 hgrow2
  have hbel2 := hbel1.grown hgrow2 hs1 (fun k h => by cases h)
  have hs2 := hbel2.size
  go_wp2_with (at_make; refine wpList_make_full _ rfl _ _ 42 rfl w2.heap.size 27 i27 (.slice none 0 0) 1 Trym.underlying42 ki kz0 kz1 .i64 .i64 _ _ n rfl rfl rfl rfl ?c1 ?c2 ?c3 ?_)
  case c1 => rw [kz2]; omega
  case c2 => unfold maxLen; omega
  case c3 => exact Nat.le_refl _
  intro w3 hown3 hgrow3
  have hst : Sw w w3 n w.heap.size w1.heap.size w2.heap.size w3.heap.size (List.replicate n 0) (List.replicate n 0) (fun _ => .slice none 0 0) (fun _ => []) := by
    have l1 := (hown1.lt w.heap.size rfl).2
    have l2 := (hown2.lt w1.heap.size rfl).2
    have l3 := (hown3.lt w2.heap.size rfl).2
    have e : ∀ (k : Nat), (madeCells #[Value.int .i64 0] n).toList = ints (List.replicate n 0) := by
      intro k
      rw [toList_madeCells_one]
      simp [ints]
    refine ⟨?_, ?_, ?_, ⟨fun j _ => World.ownsRow_nil _ _ _ _, fun j j' _ _ _ => .inl rfl⟩, hbel2.grown hgrow3 hs2 (fun k h => by cases h), Nat.le_refl _, l1, l2, l3, Nat.le_refl _⟩
    · have h2 := ((blk_of_own hown1).kept hgrow2 (by simp)).kept hgrow3 (by simp)
      rw [e 0] at h2
      exact h2
    · have h2 := (blk_of_own hown2).kept hgrow3 (by simp)
      rw [e 0] at h2
      exact h2
    · have h2 := blk_of_own hown3
      have e : (madeCells #[Value.slice none 0 0] n).toList = row n (fun _ => .slice none 0 0) := by
        rw [toList_madeCells_one]
        apply List.ext_getElem (by simp [row])
        intro t _ _
        simp [row]
      rw [e] at h2
      exact h2
  have HST := hide hst
  obtain ⟨B, hBd⟩ : ∃ B, B = w3.heap.size := ⟨_, rfl⟩
  rw [← hBd] at HST
  obtain ⟨gw, hgw⟩ : ∃ g, g = w1.heap.size := ⟨_, rfl⟩
  rw [← hgw] at HST ⊢
  obtain ⟨gh, hgh⟩ : ∃ g, g = w2.heap.size := ⟨_, rfl⟩
  rw [← hgh] at HST ⊢
  obtain ⟨gl, hgl⟩ : ∃ g, g = w.heap.size := ⟨_, rfl⟩
  have HST2 : Hid (Sw w w3 n gl gw gh B (List.replicate n 0) (List.replicate n 0) (fun _ => .slice none 0 0) (fun _ => [])) := by rw [hgl]; exact HST
  rw [← hgl] at ⊢
  clear hst hown1 hown2 hown3 hgrow1 hgrow2 hgrow3 gi gz0 gz1 gz2 ki kz0 kz1 kz2 hbel1 hbel2 hs1 hs2 hBd hgw hgh hgl HST
  go_wp2
  go_loopg [8, 30] n (fun gk s x wr => ∃ (i : Nat) (V : Nat → Value) (F : Nat → List Int) (Lv Wt : List Int), i + gk = n ∧ s = V n ∧ x = .int .i64 i ∧ Hid (Sw w wr n gl gw gh B Lv Wt V F) ∧ Hid (Lv.length = n) ∧ Hid (Wt.length = n) ∧ Hid (∀ d, d < n → F d = hp (gr S n Ln T) i d) ∧ Hid (F n = nats (cnt (gr S n Ln T) i)) ∧ Hid (∀ j, j < i → Lv.getD j 0 = if gr S n Ln T j = [] then 0 else -1) ∧ Hid (∀ j, j < i → Wt.getD j 0 = ((gr S n Ln T j).length : Nat)))
  case atStart => exact ⟨0, _, _, _, _, by omega, rfl, rfl, HST2, hide (by simp), hide (by simp), hide (fun d _ => rfl), hide rfl, hide (fun j hj => by omega), hide (fun j hj => by omega)⟩
  case round =>
    obtain ⟨i, V, F, Lv, Wt, hik, rfl, rfl, HS, HLl, HWl, HF, HC, HLv, HWt⟩ := hrel
    clear HST2
    by_cases hlt : i < n
    · have hst := unhide HS
      have sw := unhide HSW
      have g0 := (hst.bel.cell (p := ⟨gs, i * 5, none⟩) (by exact sw.lt)).trans (sw.c0 i hlt)
      have g1 := (hst.bel.cell (p := ⟨gs, i * 5 + 1, none⟩) (by exact sw.lt)).trans (sw.c1 i hlt)
      have g2 := (hst.bel.cell (p := ⟨gs, i * 5 + 2, none⟩) (by exact sw.lt)).trans (sw.c2 i hlt)
      have g3 := (hst.bel.cell (p := ⟨gs, i * 5 + 3, none⟩) (by exact sw.lt)).trans (sw.c3 i hlt)
      have g4 := (hst.bel.cell (p := ⟨gs, i * 5 + 4, none⟩) (by exact sw.lt)).trans (sw.c4 i hlt)
      have k1 := hst.lt0
      have k2 := hst.lt1
      have k3 := hst.lt2
      have k4 := hst.lt3
      have k5 := hst.lt4
      obtain ⟨ap, eap⟩ : ∃ a, a = A i := ⟨_, rfl⟩
      obtain ⟨lk, elk⟩ : ∃ a, a = Ln i := ⟨_, rfl⟩
      obtain ⟨ck, eck⟩ : ∃ a, a = C i := ⟨_, rfl⟩
      rw [← eap, ← elk, ← eck] at g3
      have hlk := unhide HL i hlt
      rw [← elk] at hlk
      have hshk := unhide HT i hlt
      rw [← eap, ← elk] at hshk
      have hszk := unhide HTS i hlt
      rw [← elk] at hszk
      have HSHK := hide hshk
      have HSZK := hide hszk
      have HLK := hide elk
      have hlev : (wr.alloc (.cells #[.int .i64 0, .slice none 0 0, .string ByteArray.empty, .slice ap lk ck, .slice none 0 0] 38)).cell? ⟨gl, i, none⟩ = some (.int .i64 (Lv.getD i 0)) := by
        rw [(hst.lev.alloc _).cell i, ints_get _ _ (by rw [unhide HLl]; exact hlt)]
      have flev := (hst.lev.alloc (.cells #[.int .i64 0, .slice none 0 0, .string ByteArray.empty, .slice ap lk ck, .slice none 0 0] 38)).frozen i
      have st1 := (hst.alloc (.cells #[.int .i64 0, .slice none 0 0, .string ByteArray.empty, .slice ap lk ck, .slice none 0 0] 38)).setL i (-1)
      have bk : IsBlk (wr.alloc (.cells #[.int .i64 0, .slice none 0 0, .string ByteArray.empty, .slice ap lk ck, .slice none 0 0] 38)) wr.heap.size 38 [.int .i64 0, .slice none 0 0, .string ByteArray.empty, .slice ap lk ck, .slice none 0 0] := heap_new wr _
      have bk1 := bk.kept (grown_set _ gl i (.int .i64 (-1))) (by simp; omega)
      have cs1 := bk1.cell 3
      have hw1 : ((wr.alloc (.cells #[.int .i64 0, .slice none 0 0, .string ByteArray.empty, .slice ap lk ck, .slice none 0 0] 38)).setCell ⟨gl, i, none⟩ (.int .i64 (-1))).cell? ⟨gw, i, none⟩ = some (.int .i64 (Wt.getD i 0)) := by
        rw [st1.wait.cell i, ints_get _ _ (by rw [unhide HWl]; exact hlt)]
      have fw1 := st1.wait.frozen i
      have st2 := st1.setW i (lk : Int)
      have bk2 := bk1.kept (grown_set _ gw i (.int .i64 (lk : Int))) (by simp; omega)
      have cs2 := bk2.cell 3
      simp only [List.getElem?_cons_succ, List.getElem?_cons_zero] at cs1 cs2
      have HST2 := hide st2
      obtain ⟨lx, elx⟩ : ∃ x, x = Lv.getD i 0 := ⟨_, rfl⟩
      rw [← elx] at hlev
      obtain ⟨wx, ewx⟩ : ∃ x, x = Wt.getD i 0 := ⟨_, rfl⟩
      rw [← ewx] at hw1
      have d1 : (i : Int) < n := by omega
      clear hst sw eap elk eck st1 st2 bk bk1 bk2 hshk hszk elx ewx
      go_wp2
      go_loopg [47] lk (fun gk x wq => ∃ (j : Nat) (V1 : Nat → Value) (F1 : Nat → List Int), j + gk = lk ∧ x = .int .i64 j ∧ V1 n = V n ∧ Hid (Sw w wq n gl gw gh B (Lv.set i (-1)) (Wt.set i (lk : Int)) V1 F1) ∧ Hid (∀ d, d < n → F1 d = hpj (gr S n Ln T) i j d) ∧ Hid (F1 n = F n))
      case atStart => exact ⟨0, V, F, by omega, rfl, rfl, HST2, hide (fun d hd => by rw [hpj_zero]; exact unhide HF d hd), hide rfl⟩
      case round =>
        obtain ⟨j, V1, F1, hjk, rfl, hV1, HS1, HF1, HFn⟩ := hrel
        clear HST2 hlev flev cs1 cs2 hw1 fw1 g0 g1 g2 g3 g4
        have hst := unhide HS1
        have m5 := hst.lt4
        by_cases hjl : j < lk
        · rcases unhide HSHK with h | ⟨b, o, rfl, hb, hc⟩
          · omega
          · obtain ⟨s, es⟩ : ∃ s, s = T i j := ⟨_, rfl⟩
            have hcs := (hst.bel.cell (p := ⟨b, o + j, none⟩) (by exact hb)).trans (hc j hjl)
            rw [← es] at hcs
            have hkey : keyOf Trym.prog 9 (.string s) = some (nkey s) := by rw [es]; exact keyOf_string_mk Trym.underlying9 (unhide HSZK j hjl)
            have hom := owns_below (unhide HM) hst.bel (unhide HM).lt
            have hgj := gr_get S n Ln T i j (by rw [← unhide HLK]; exact hjl)
            rw [← es] at hgj
            have hhas := byN_has S s n
            have dj : (j : Int) < lk := by omega
            have HOM := hide hom
            have HGJ := hide hgj
            clear es hc hom hgj
            cases hlast : lastIx S n s with
            | none =>
              rw [hlast] at hhas HGJ
              have hhas' : Maps.has (byN S n) (nkey s) = false := hhas
              clear hst hhas hlast
              go_wp2_with (at_lookup; refine wpList_lookup_own_ok_int _ rfl _ _ 25 rfl 9 3 .i64 keyLaw Trym.underlying25 Trym.underlying3 (zero3 _) gm n (byN S n) rfl (unhide HOM) _ (nkey s) rfl hkey ?_)
              intro c _ _
              go_wp2
              go_roundg (lk - (j + 1))
              case measure => go_light; omega
              case rel =>
                go_light
                exact ⟨j + 1, V1, F1, by omega, by go_num, hV1, HS1, hide (fun d hd => by rw [hpj_no _ _ _ _ _ (unhide HGJ) (by simp)]; exact unhide HF1 d hd), HFn⟩
            | some p =>
              rw [hlast] at hhas HGJ
              have hhas' : Maps.has (byN S n) (nkey s) = true := hhas
              have hpn := (lastIx_lt S s p n hlast).1
              have hbat := byN_at S s p n (.lit (.int .i64 0)) hlast
              have hVp := hst.fam.own p (by omega)
              obtain ⟨kp, kc, hVe, q1, q2, q3, q4, q5⟩ := shows_own hVp
              have hck : wr.cell? ⟨gh, p, none⟩ = some (.slice kp (F1 p).length kc) := by
                rw [hst.hold.cell p, row_get _ _ _ hpn, hVe]
              have hfk := hst.hold.frozen p
              have hFl : (F1 p).length ≤ 17179869184 := by
                rw [unhide HF1 p hpn]
                have := hpj_len (gr S n Ln T) 131072 i j p (fun k hk => by rw [gr_length]; exact unhide HL k (by omega))
                omega
              have d2 : (p : Int) < n := by omega
              rw [hVe] at hVp
              have HO := hide hVp
              have HBAT := hide hbat
              have HVE := hide hVe
              have HCK := hide (hst.hold.alloc (.cells #[.int .i64 (i : Int)] 3))
              clear hst hhas hlast hVp q1 q2 q3 q4 q5 hVe hbat
              go_wp2_with (at_lookup; refine wpList_lookup_own_ok_int _ rfl _ _ 25 rfl 9 3 .i64 keyLaw Trym.underlying25 Trym.underlying3 (zero3 _) gm n (byN S n) rfl (unhide HOM) _ (nkey s) rfl hkey ?_)
              intro c hat _
              obtain rfl : c = (p : Int) := by
                rw [unhide HBAT] at hat
                simpa using hat.symm
              clear hat
              go_wp2_with (at_builtin; refine wpList_push _ rfl (.tmp 63) (.tmp 65) rfl B (.slice kp (F1 p).length kc) (F1 p).length (F1 p) rfl (unhide HO) (i : Int) wr.heap.size rfl rfl (by omega) m5 ?_)
              intro v2 w2 hown2 hgrow2 hat2
              have hk2 := (unhide HCK).kept hgrow2 (fun e => by have := ((unhide HO).lt gh e.symm).1; omega)
              have hc2 := hk2.cell p
              rw [row_get _ _ _ hpn, unhide HVE] at hc2
              have hf2 := hk2.frozen p
              have HS5 := hide ((unhide HS1).kid (p := p) (y := (i : Int)) (o := .cells #[.int .i64 (i : Int)] 3) (v' := v2) hpn hown2 (by rw [unhide HVE]; exact hgrow2) (by rw [unhide HVE]; exact hat2))
              obtain ⟨vp, vc, rfl, _⟩ := shows_own hown2
              clear hown2 hgrow2 hat2 hk2
              go_wp2
              go_roundg (lk - (j + 1))
              case measure => go_light; omega
              case rel =>
                go_light
                refine ⟨j + 1, upd V1 p _, upd F1 p (F1 p ++ [(i : Int)]), by omega, by go_num, (upd_other _ _ _ _ (by omega)).trans hV1, HS5, hide (fun d hd => ?_), hide ((upd_other _ _ _ _ (by omega)).trans (unhide HFn))⟩
                by_cases e : d = p
                · subst e
                  rw [upd_same, hpj_yes _ _ _ _ (unhide HGJ), unhide HF1 d hd]
                · rw [upd_other _ _ _ _ e, hpj_no _ _ _ _ _ (unhide HGJ) (fun e2 => e (by simpa using e2.symm))]
                  exact unhide HF1 d hd
        · have dj : ¬ (j : Int) < lk := by omega
          have hjk2 : j = lk := by omega
          have hwl : i < (Wt.set i (lk : Int)).length := by rw [List.length_set, unhide HWl]; exact hlt
          have hll : i < (Lv.set i (-1)).length := by rw [List.length_set, unhide HLl]; exact hlt
          have hcw : wr.cell? ⟨gw, i, none⟩ = some (.int .i64 (lk : Int)) := by
            rw [hst.wait.cell i, ints_get _ _ hwl, getD_set _ _ _ _ _ (by rw [unhide HWl]; exact hlt), if_pos rfl]
          have hFd : ∀ d, d < n → F1 d = hp (gr S n Ln T) (i + 1) d := fun d hd => by
            rw [unhide HF1 d hd, hjk2, unhide HLK, ← gr_length S n Ln T i, hpj_full]
          have HFD := hide hFd
          have hWd : ∀ j, j < i + 1 → (Wt.set i (lk : Int)).getD j 0 = ((gr S n Ln T j).length : Nat) := fun j hj => by
            rw [getD_set _ _ _ _ _ (by rw [unhide HWl]; exact hlt)]
            by_cases e : i = j
            · subst e; rw [if_pos rfl, gr_length, unhide HLK]
            · rw [if_neg e]; exact unhide HWt j (by omega)
          have HWD := hide hWd
          by_cases hl0 : lk = 0
          · have hcl : wr.cell? ⟨gl, i, none⟩ = some (.int .i64 (-1)) := by
              rw [hst.lev.cell i, ints_get _ _ hll, getD_set _ _ _ _ _ (by rw [unhide HLl]; exact hlt), if_pos rfl]
            have hfl := hst.lev.frozen i
            have HM2 := hide (hst.setL i 0)
            have HO := hide ((unhide HM2).fam.own n (by omega))
            rw [hV1] at HO
            have hszm : B ≤ (wr.setCell ⟨gl, i, none⟩ (.int .i64 0)).heap.size := (unhide HM2).lt4
            have hFl : (F1 n).length ≤ n := by
              rw [unhide HFn, unhide HC, nats_length]
              have := cnt_len (gr S n Ln T) i
              omega
            have e0 : ((lk : Int) == 0) = true := by rw [hl0]; rfl
            clear hst hFd hWd hwl hll
            go_wp2_with (at_builtin; refine wpList_push _ rfl (.tmp 77) (.tmp 79) rfl B (V n) (F1 n).length (F1 n) rfl (unhide HO) (i : Int) wr.heap.size (by simp) rfl (by omega) hszm ?_)
            intro v2 w2 hown2 hgrow2 hat2
            have HS5 := hide ((unhide HM2).push hown2 (by rw [hV1]; exact hgrow2) (by rw [hV1]; simpa using hat2))
            clear hown2 hgrow2 hat2
            go_wp2
            go_roundg (n - (i + 1))
            case measure => go_light; omega
            case rel =>
              go_light
              have hG0 : gr S n Ln T i = [] := List.eq_nil_of_length_eq_zero (by rw [gr_length, ← unhide HLK]; exact hl0)
              refine ⟨i + 1, upd V1 n v2, upd F1 n (F1 n ++ [(i : Int)]), (Lv.set i (-1)).set i 0, Wt.set i (lk : Int), by omega, (upd_same _ _ _).symm, by go_num, HS5, hide (by simp [unhide HLl]), hide (by simp [unhide HWl]), hide (fun d hd => ?_), hide ?_, hide (fun j hj => ?_), HWD⟩
              · rw [upd_other _ _ _ _ (by omega)]; exact unhide HFD d hd
              · rw [upd_same, unhide HFn, unhide HC, ← nats_snoc]
                show nats (cnt (gr S n Ln T) i ++ [i]) = nats (if gr S n Ln T i = [] then cnt (gr S n Ln T) i ++ [i] else cnt (gr S n Ln T) i)
                rw [if_pos hG0]
              · rw [List.set_set, getD_set _ _ _ _ _ (by rw [unhide HLl]; exact hlt)]
                by_cases e : i = j
                · subst e; rw [if_pos rfl, if_pos hG0]
                · rw [if_neg e]; exact unhide HLv j (by omega)
          · have e0 : ((lk : Int) == 0) = false := beq_eq_false_iff_ne.2 (by omega)
            clear hst hFd hWd hwl hll
            go_wp2
            go_roundg (n - (i + 1))
            case measure => go_light; omega
            case rel =>
              go_light
              have hG0 : gr S n Ln T i ≠ [] := fun e => hl0 (by rw [unhide HLK, ← gr_length S n Ln T i, e]; rfl)
              refine ⟨i + 1, V1, F1, Lv.set i (-1), Wt.set i (lk : Int), by omega, hV1.symm, by go_num, HS1, hide (by simp [unhide HLl]), hide (by simp [unhide HWl]), HFD, hide ?_, hide (fun j hj => ?_), HWD⟩
              · rw [unhide HFn, unhide HC]
                simp [cnt, hG0]
              · rw [getD_set _ _ _ _ _ (by rw [unhide HLl]; exact hlt)]
                by_cases e : i = j
                · subst e; rw [if_pos rfl, if_neg hG0]
                · rw [if_neg e]; exact unhide HLv j (by omega)
    · have hin : i = n := by omega
      have d1 : ¬ (i : Int) < n := by omega
      rw [hin] at HF HC HLv HWt
      have HK : Hid (Kahn (gr S n Ln T) n Wt Lv (cnt (gr S n Ln T) n) [] [] (fun _ => 0)) := hide (Kahn.start (unhide HWl) (unhide HLl) (unhide HWt) (unhide HLv) (fun x => cnt_mem _ x n) (cnt_nodup _ n))
      clear HLv HWt HLl HWl hik hlt hin
      go_wp2
      go_loopg [8] n (fun gk s wr => ∃ (V : Nat → Value) (F : Nat → List Int) (Lv Wt : List Int) (C D : List Nat), D.length + gk = n ∧ s = V n ∧ Hid (Sw w wr n gl gw gh B Lv Wt V F) ∧ Hid (∀ d, d < n → F d = hp (gr S n Ln T) n d) ∧ Hid (F n = nats C) ∧ Hid (Kahn (gr S n Ln T) n Wt Lv C D D (fun _ => 0)))
      case atStart => exact ⟨V, F, Lv, Wt, _, [], by simp, rfl, HS, HF, HC, HK⟩
      case round =>
        clear HS HF HC HK
        obtain ⟨V, F, Lv, Wt, C, D, hDk, rfl, HS, HF, HC, HK⟩ := hrel
        have hst := unhide HS
        have k1 := hst.lt0
        have k2 := hst.lt1
        have k3 := hst.lt2
        have k4 := hst.lt3
        have k5 := hst.lt4
        have hVn := hst.fam.own n (by omega)
        obtain ⟨sp, sc, hVe, q1, q2, q3, q4, q5⟩ := shows_own hVn
        rw [hVe]
        have HVE := hide hVe
        rcases List.eq_nil_or_concat C with hC | ⟨l, a, hC⟩
        · have hl0 : (F n).length = 0 := by rw [unhide HC, hC]; rfl
          rw [hC] at HK
          rw [hl0]
          have HWl := hide (unhide HK).wlen
          have HLl := hide (unhide HK).llen
          clear hVn q1 q2 q3 q4 q5 hVe hst hC
          go_wp2
          go_loopw [136] (fun x wr => ∃ (i : Nat) (Lx : List Int), i ≤ n ∧ x = .int .i64 i ∧ Hid (Sw w wr n gl gw gh B Lx Wt V F) ∧ Hid (Lx.length = n) ∧ Hid (∀ j, j < n → Lx.getD j 0 = if j < i ∧ Wt.getD j 0 ≠ 0 then -1 else Lv.getD j 0)) (fun x _ => n - (intOf x).toNat)
          case atStart => exact ⟨0, Lv, Nat.zero_le _, rfl, HS, HLl, hide (fun j _ => by rw [if_neg (by omega)])⟩
          case round =>
            obtain ⟨i, Lx, hin, rfl, HS2, HLx, HLE⟩ := hrel
            clear HS
            have hst := unhide HS2
            by_cases hlt : i < n
            · obtain ⟨z, hz⟩ : ∃ z, z = Wt.getD i 0 := ⟨_, rfl⟩
              have hcw : wr.cell? ⟨gw, i, none⟩ = some (.int .i64 z) := by
                rw [hst.wait.cell i, ints_get _ _ (by rw [unhide HWl]; exact hlt), hz]
              have hcl : wr.cell? ⟨gl, i, none⟩ = some (.int .i64 (Lx.getD i 0)) := by
                rw [hst.lev.cell i, ints_get _ _ (by rw [unhide HLx]; exact hlt)]
              have hfl := hst.lev.frozen i
              have HM2 := hide (hst.setL i (-1))
              have HZ := hide hz
              obtain ⟨lx, hlx⟩ : ∃ z, z = Lx.getD i 0 := ⟨_, rfl⟩
              rw [← hlx] at hcl
              have d1 : (i : Int) < n := by omega
              by_cases hz0 : z = 0
              · have e0 : (z != 0) = false := by simp [hz0]
                clear hst hz hlx
                go_wp2
                go_roundw
                case rel =>
                  go_light
                  refine ⟨i + 1, Lx, by omega, by go_num, HS2, HLx, hide (fun j hj => ?_)⟩
                  rw [unhide HLE j hj]
                  by_cases e : j = i
                  · subst e
                    rw [if_neg (by omega), if_neg (fun h => h.2 (by rw [← unhide HZ]; exact hz0))]
                  · by_cases h : j < i
                    · have h' : j < i + 1 := by omega
                      simp only [h, h', true_and]
                    · have h' : ¬ j < i + 1 := by omega
                      simp only [h, h', false_and]
                case measure => go_light; simp [intOf]; omega
              · have e0 : (z != 0) = true := by simp [hz0]
                clear hst hz hlx
                go_wp2
                go_roundw
                case rel =>
                  go_light
                  refine ⟨i + 1, Lx.set i (-1), by omega, by go_num, HM2, hide (by simp [unhide HLx]), hide (fun j hj => ?_)⟩
                  rw [getD_set _ _ _ _ _ (by rw [unhide HLx]; exact hlt)]
                  by_cases e : i = j
                  · subst e
                    rw [if_pos rfl, if_pos ⟨by omega, by rw [← unhide HZ]; exact hz0⟩]
                  · rw [if_neg e, unhide HLE j hj]
                    by_cases h : j < i
                    · have h' : j < i + 1 := by omega
                      simp only [h, h', true_and]
                    · have h' : ¬ j < i + 1 := by omega
                      simp only [h, h', false_and]
                case measure => go_light; simp [intOf]; omega
            · have d1 : ¬ (i : Int) < n := by omega
              have hin2 : i = n := by omega
              clear hst
              go_wp2
              go_ret
              refine ⟨gl, rfl, Lx, (unhide HS2).lev, k1, ⟨unhide HLx, fun j hj => ?_⟩, (unhide HS2).bel⟩
              have hfin := (unhide HK).finish (fun i _ d hd => gr_lt S n Ln T i d hd) j hj
              have hle := unhide HLE j hj
              rw [hin2] at hle
              by_cases h0 : Wt.getD j 0 = 0
              · rw [if_neg (fun h => h.2 h0)] at hle
                rw [hle]
                exact .inl (hfin.1 h0)
              · rw [if_pos ⟨hj, h0⟩] at hle
                exact .inr ⟨hle, hfin.2 h0⟩
        · rw [show l.concat a = l ++ [a] by simp] at hC
          have hFn : F n = nats l ++ [(a : Int)] := by rw [unhide HC, hC, nats_snoc]
          have hlm : (F n).length = l.length + 1 := by rw [hFn]; simp [nats]
          rw [hC] at HK
          obtain ⟨hk1, han, haD⟩ := (unhide HK).pop
          have hcl1 := hk1.count_le
          have hVa := hst.fam.own a (by omega)
          obtain ⟨kp, kc, hVae, p1, p2, p3, p4, p5⟩ := shows_own hVa
          have hFa := unhide HF a han
          rw [hFa] at hVae
          obtain ⟨Lk, hLk⟩ : ∃ Lk, Lk = (hp (gr S n Ln T) n a).length := ⟨_, rfl⟩
          rw [← hLk] at hVae
          have hLkb : Lk ≤ 17179869184 := by
            have := hp_len (gr S n Ln T) 131072 a n (fun k hk => by rw [gr_length]; exact unhide HL k hk)
            omega
          have hck : wr.cell? ⟨gh, a, none⟩ = some (.slice kp Lk kc) := by
            rw [hst.hold.cell a, row_get _ _ _ han, hVae]
          rcases q4 with q4 | ⟨sb, so, rfl, hsb, hsc⟩
          · omega
          · have hcl : wr.cell? ⟨sb, so + l.length, none⟩ = some (.int .i64 (a : Int)) := by
              rw [hsc l.length (by omega), hFn]
              simp [nats]
            have HPO := hide (hst.pop (m := l.length) (by rw [hVe, hlm]) hFn)
            rw [hlm]
            have q2' : sc ≤ 9223372036854775807 := by unfold maxLen at q2; omega
            have q1' : l.length + 1 ≤ sc := by omega
            have e0 : ((l.length : Int) + 1 - 1) = (l.length : Int) := by omega
            have e1 : (((l.length : Int) + 1) != 0) = true := by rw [bne_iff_ne]; omega
            have da : (a : Int) < n := by omega
            have hDn : D.length + 1 ≤ n := by simp only [List.length_cons] at hcl1; omega
            have hll : l.length ≤ 1099511627776 := by omega
            have HK1 := hide hk1
            have HLK := hide hLk
            have HVA := hide hVae
            clear hVn q3 q5 hVe hst hC hFn hsc q1 q2 hlm HK hk1 hVa hVae p1 p2 p3 p4 p5 hFa hLk hcl1 HS
            obtain ⟨G0, hG0⟩ : ∃ G, G = gk := ⟨_, rfl⟩
            have hDk2 : D.length + G0 = n := by omega
            have HG0 := hide hG0
            clear hG0
            go_wp2
            go_loopg [8, 101] Lk (fun gk s jj wr => ∃ (j : Nat) (V : Nat → Value) (F : Nat → List Int) (Lv Wt : List Int) (C : List Nat), j + gk = Lk ∧ jj = .int .i64 j ∧ s = V n ∧ Hid (V a = .slice kp Lk kc) ∧ Hid (Sw w wr n gl gw gh B Lv Wt V F) ∧ Hid (∀ d, d < n → F d = hp (gr S n Ln T) n d) ∧ Hid (F n = nats C) ∧ Hid (Kahn (gr S n Ln T) n Wt Lv C (a :: D) D (fun i => ((hp (gr S n Ln T) n a).take j).count (i : Int))))
            case atStart =>
              refine ⟨0, _, _, Lv, Wt, l, by omega, rfl, (upd_same _ _ _).symm, hide ?_, HPO, hide (fun d hd => ?_), hide (upd_same _ _ _), hide ?_⟩
              · rw [upd_other _ _ _ _ (by omega)]; exact unhide HVA
              · rw [upd_other _ _ _ _ (by omega)]; exact unhide HF d hd
              · simpa using unhide HK1
            case round =>
              clear HPO HK1 HVA HF HC hck hcl
              obtain ⟨j, V2, F2, Lv2, Wt2, C2, hjk, rfl, rfl, HVA2, HS2, HF2, HC2, HK2⟩ := hrel
              have hst := unhide HS2
              have m5 := hst.lt4
              by_cases hjl : j < Lk
              · have hVa : wr.ownsRow B 3 1 (.slice kp Lk kc) Lk (ints (hp (gr S n Ln T) n a)) := by
                  have h := hst.fam.own a (by omega)
                  rw [unhide HF2 a han, unhide HVA2, ← unhide HLK] at h
                  exact h
                obtain ⟨kp2, kc2, hVe2, _, _, _, q4, _⟩ := shows_own hVa
                obtain ⟨rfl, rfl⟩ : kp = kp2 ∧ kc = kc2 := by simpa using hVe2
                rcases q4 with q4 | ⟨kb, ko, rfl, hkb, hkc⟩
                · omega
                · have hjl' : j < (hp (gr S n Ln T) n a).length := by rw [← unhide HLK]; exact hjl
                  have hmem : (hp (gr S n Ln T) n a).getD j 0 ∈ hp (gr S n Ln T) n a := by
                    rw [List.getD_eq_getElem?_getD, List.getElem?_eq_getElem hjl', Option.getD_some]
                    exact List.getElem_mem hjl'
                  obtain ⟨u, hun, hu⟩ := hp_mem (gr S n Ln T) a _ n hmem
                  have hcu := hkc j hjl
                  rw [hu] at hcu
                  have hgu : (hp (gr S n Ln T) n a)[j]? = some (u : Int) := by
                    rw [List.getElem?_eq_getElem hjl', ← hu, List.getD_eq_getElem?_getD, List.getElem?_eq_getElem hjl', Option.getD_some]
                  obtain ⟨hW1, hua, hs1, hs2⟩ := (unhide HK2).step (u := u) (q' := fun i => ((hp (gr S n Ln T) n a).take (j + 1)).count (i : Int)) haD hun (fun t _ => by
                    show ((hp (gr S n Ln T) n a).take (j + 1)).count (t : Int) = _
                    rw [List.take_add_one, hgu, List.count_append]
                    by_cases e : t = u
                    · subst e; simp
                    · have e2 : ¬ (u : Int) = (t : Int) := by omega
                      simp [e, e2]) (by
                    have h1 := (List.take_sublist (j + 1) (hp (gr S n Ln T) n a)).count_le (u : Int)
                    rw [hp_count, if_pos hun] at h1
                    exact h1)
                  obtain ⟨y, hy⟩ : ∃ y, y = Lv2.getD a 0 := ⟨_, rfl⟩
                  obtain ⟨x, hx⟩ : ∃ x, x = Lv2.getD u 0 := ⟨_, rfl⟩
                  obtain ⟨z, hz⟩ : ∃ x, x = Wt2.getD u 0 := ⟨_, rfl⟩
                  have hll2 := (unhide HK2).llen
                  have hwl2 := (unhide HK2).wlen
                  have hcx : wr.cell? ⟨gl, u, none⟩ = some (.int .i64 x) := by
                    rw [hst.lev.cell u, ints_get _ _ (by omega), hx]
                  have hcy : wr.cell? ⟨gl, a, none⟩ = some (.int .i64 y) := by
                    rw [hst.lev.cell a, ints_get _ _ (by omega), hy]
                  have hfx := hst.lev.frozen u
                  have hy0 : 0 ≤ y := by
                    obtain ⟨k, e, _⟩ := (unhide HK2).has a (by simp)
                    rw [hy, e]; omega
                  have hy1 : y ≤ 131072 := by
                    have := (unhide HK2).bdE a (by simp)
                    rw [← hy] at this
                    omega
                  have hz1 : z ≤ 131072 := by
                    have := (unhide HK2).wq u hun
                    rw [← hz, gr_length] at this
                    have := unhide HL u hun
                    omega
                  rw [← hz] at hW1 hs1 hs2
                  rw [← hx, ← hy] at hs1 hs2
                  have HS1 := hide hs1
                  have HSS2 := hide hs2
                  have d1 : (j : Int) < Lk := by omega
                  have d2 : (u : Int) < n := by omega
                  have hF2l : (F2 n).length ≤ n := by
                    have := (unhide HK2).count_le
                    rw [unhide HC2, nats_length]
                    omega
                  have HWZ : Hid (Wt2.getD u 0 = z) := hide hz.symm
                  clear hst hVa hVe2 hjl' hmem hgu hkc hkb hx hy hz hs1 hs2 hll2 hu
                  by_cases hz0 : z - 1 = 0
                  · have e0 : (z - 1 == 0) = true := by rw [hz0]; rfl
                    go_wp2
                    go_region
                    have hM : max x (y + 1) = if x < y + 1 then y + 1 else x := by split <;> omega
                    rw [← hM]
                    obtain ⟨M, eM⟩ : ∃ M, M = max x (y + 1) := ⟨_, rfl⟩
                    rw [← eM] at HS1 HSS2 ⊢
                    clear hM eM
                    have st1 := (unhide HS2).setL u M
                    have hcz : (wr.setCell ⟨gl, u, none⟩ (.int .i64 M)).cell? ⟨gw, u, none⟩ = some (.int .i64 z) := by
                      rw [st1.wait.cell u, ints_get _ _ (by omega), unhide HWZ]
                    have hfz := st1.wait.frozen u
                    have ST2 := hide ((st1.setW u 0).drew)
                    clear st1 hcx hcy hfx
                    have HO := hide ((unhide ST2).fam.own n (by omega))
                    have hszm := (unhide ST2).lt4
                    go_wp2_with (at_builtin; refine wpList_push (((wr.setCell ⟨gl, u, none⟩ (.int .i64 M)).setCell ⟨gw, u, none⟩ (.int .i64 0)).drew) rfl (.tmp 129) (.tmp 131) rfl B (V2 n) (F2 n).length (F2 n) rfl (unhide HO) (u : Int) wr.heap.size (by simp) rfl (by omega) hszm ?_)
                    intro v2 w2 hown2 hgrow2 hat2
                    have HS5 := hide ((unhide ST2).push hown2 hgrow2 (by simpa using hat2))
                    clear hown2 hgrow2 hat2
                    go_wp2
                    go_roundg (Lk - (j + 1))
                    case measure => go_light; omega
                    case rel =>
                      go_light
                      refine ⟨j + 1, upd V2 n v2, upd F2 n (F2 n ++ [(u : Int)]), Lv2.set u M, Wt2.set u 0, C2 ++ [u], by omega, by go_num, (upd_same _ _ _).symm, hide ?_, HS5, hide (fun d hd => ?_), hide ?_, hide (by have h := unhide HSS2 hz0; rw [hz0] at h; exact h)⟩
                      · rw [upd_other _ _ _ _ (by omega)]; exact unhide HVA2
                      · rw [upd_other _ _ _ _ (by omega)]; exact unhide HF2 d hd
                      · rw [upd_same, nats_snoc, unhide HC2]
                  · have e0 : (z - 1 == 0) = false := beq_eq_false_iff_ne.2 hz0
                    go_wp2
                    go_region
                    have hM : max x (y + 1) = if x < y + 1 then y + 1 else x := by split <;> omega
                    rw [← hM]
                    obtain ⟨M, eM⟩ : ∃ M, M = max x (y + 1) := ⟨_, rfl⟩
                    rw [← eM] at HS1 HSS2 ⊢
                    clear hM eM
                    have st1 := (unhide HS2).setL u M
                    have hcz : (wr.setCell ⟨gl, u, none⟩ (.int .i64 M)).cell? ⟨gw, u, none⟩ = some (.int .i64 z) := by
                      rw [st1.wait.cell u, ints_get _ _ (by omega), unhide HWZ]
                    have hfz := st1.wait.frozen u
                    have ST2 := hide ((st1.setW u (z - 1)).drew)
                    clear st1 hcx hcy hfx
                    go_wp2
                    go_roundg (Lk - (j + 1))
                    case measure => go_light; omega
                    case rel =>
                      go_light
                      exact ⟨j + 1, V2, F2, Lv2.set u M, Wt2.set u (z - 1), C2, by omega, by go_num, rfl, HVA2, ST2, HF2, HC2, hide (unhide HS1 hz0)⟩
              · have d1 : ¬ (j : Int) < Lk := by omega
                have hjL : j = (hp (gr S n Ln T) n a).length := by rw [← unhide HLK]; omega
                have hkd := (unhide HK2).done haD (fun i hi => by
                  show ((hp (gr S n Ln T) n a).take j).count (i : Int) = _
                  rw [hjL, List.take_length, hp_count, if_pos hi])
                have HKD := hide hkd
                clear hst hkd hjL
                go_wp2
                go_roundg (G0 - 1)
                case measure => go_light; have := unhide HG0; omega
                case rel =>
                  go_light
                  exact ⟨V2, F2, Lv2, Wt2, C2, a :: D, by simp only [List.length_cons]; omega, rfl, HS2, HF2, HC2, HKD⟩

end Go.Proofs.Qxb6600042aMods
