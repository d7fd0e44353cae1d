import Derived.Test.Qxb6601444aModsApp
import Derived.Test.Qxb6601444aModsEsc
import Derived.Deep.RegionLaw
import Derived.Deep.Light
namespace Go.Proofs.Qxb6601444aMods
open Go.RowKit

theorem step_app {ops : Array Oper} {o : Oper} {a : Act} {K : Act → World → Prop} {Q : Exit → Act → World → Prop} {E : Prop} (w : World) (hg : o.guard = none) (s x : Operand)
    (ho : o.op = .call { callee := .builtin .append, args := #[s, x], argTypes := #[22, 22] })
    (base : Nat) (v : Value) (n : Nat) (xs : List Int) (hs : a.eval s = v) (hown : w.ownsRow base 5 1 v n (by8 xs))
    (ao : Option Addr) (m c : Nat) (ys : List Int) (hx : a.eval x = .slice ao m c) (hy : ys.length = m) (hsh : Shows w ao m ys) (hnone : ao = none → m = 0 ∧ c = 0)
    (bd : n + m ≤ 1099511627776) (hbase : base ≤ w.heap.size)
    (h : ∀ v' w', w'.ownsRow base 5 1 v' (n + m) (by8 (xs ++ ys)) → w.grownBy w' v.ownBlock → K (a.put o.dst v') w') :
    if Region.wanted o (yielded ops a.tmps) = true then Oper.wp Trym.prog o a w K Q else E := by
  have hw : Region.wanted o (yielded ops a.tmps) = true := by simp [Region.wanted, hg]
  rw [if_pos hw]
  exact wp_app w s x ho base v n xs hs hown ao m c ys hx hy hsh hnone bd hbase h

theorem hex_index (i : Nat) (hi : i < 16) (W : World) :
    (Instr.index 9 (.string { data := #[48, 49, 50, 51, 52, 53, 54, 55, 56, 57, 97, 98, 99, 100, 101, 102] }) (.int .u8 (i : Int))).run Trym.prog W = .ok (.int .u8 (hexd (i : Int))) W := by
  rw [run_index_string (P := Trym.prog) W 9 _ .u8 (i : Int) Trym.underlying9, dif_pos (by constructor; omega; show (i : Int) < 16; omega)]
  have hc : i = 0 ∨ i = 1 ∨ i = 2 ∨ i = 3 ∨ i = 4 ∨ i = 5 ∨ i = 6 ∨ i = 7 ∨ i = 8 ∨ i = 9 ∨ i = 10 ∨ i = 11 ∨ i = 12 ∨ i = 13 ∨ i = 14 ∨ i = 15 := by omega
  rcases hc with rfl | rfl | rfl | rfl | rfl | rfl | rfl | rfl | rfl | rfl | rfl | rfl | rfl | rfl | rfl | rfl
  all_goals rfl

theorem and_15 (c : Int) (h0 : 0 ≤ c) (h1 : c < 32) : bits BinOp.and .u8 c 15 = c % 16 := by
  have h : ∀ n : Fin 32, bits BinOp.and .u8 (n.val : Int) 15 = (n.val : Int) % 16 := by decide
  have := h ⟨c.toNat, by omega⟩
  rwa [show ((c.toNat : Nat) : Int) = c by omega] at this

theorem hex_hi (c : Int) (h0 : 0 ≤ c) (h1 : c < 32) (W : World) :
    (Instr.index 9 (.string { data := #[48, 49, 50, 51, 52, 53, 54, 55, 56, 57, 97, 98, 99, 100, 101, 102] }) (.int .u8 (c / 16))).run Trym.prog W = .ok (.int .u8 (hexd (c / 16))) W := by
  have := hex_index (c / 16).toNat (by omega) W
  rwa [show (((c / 16).toNat : Nat) : Int) = c / 16 by omega] at this

theorem hex_lo (c : Int) (h0 : 0 ≤ c) (h1 : c < 32) (W : World) :
    (Instr.index 9 (.string { data := #[48, 49, 50, 51, 52, 53, 54, 55, 56, 57, 97, 98, 99, 100, 101, 102] }) (.int .u8 (bits BinOp.and .u8 c 15))).run Trym.prog W = .ok (.int .u8 (hexd (c % 16))) W := by
  rw [and_15 c h0 h1]
  have := hex_index (c % 16).toNat (by omega) W
  rwa [show (((c % 16).toNat : Nat) : Int) = c % 16 by omega] at this

theorem enc_form (xs e : List Int) : xs ++ 34 :: e ++ [34] = xs ++ 34 :: (e ++ [34]) := by simp

set_option maxHeartbeats 1000000 in
theorem enc_some (p : Option Addr) (n : Nat) (xs : List Int) (b o m d : Nat) (ss : List Int) (w : World) (hx : xs.length = n) (hn : n ≤ 1048576) (hp : p = none → n = 0) (hsx : Shows w p n xs)
    (hs : ss.length = m) (hm : m ≤ 1048576) (hmd : m ≤ d) (hdm : d ≤ maxLen) (hb : b < w.heap.size) (hby : ∀ x ∈ ss, 0 ≤ x ∧ x < 256)
    (hc : ∀ i, i < m → w.cell? ⟨b, o + i, none⟩ = some (.int .u8 (ss.getD i 0))) :
    Calls Trym.prog 16 #[.slice p n n, .slice (some ⟨b, o, none⟩) m d] w fun e w' => ∃ v, e = .returned v ∧ w'.ownsRow w.heap.size 5 1 v (xs ++ 34 :: esc ss ++ [34]).length (by8 (xs ++ 34 :: esc ss ++ [34])) ∧ Below w.heap.size w w' := by
  have hb1 : Below w.heap.size w (w.alloc (.cells #[.int .u8 34] 5)) := (Below.refl _ _).alloc (Nat.le_refl _) _
  have hlit : Shows (w.alloc (.cells #[.int .u8 34] 5)) (some ⟨w.heap.size, 0, none⟩) 1 [34] := shows_lit w [34] 5
  have hsx1 := hsx.below hb1
  have hdm' := hdm
  unfold maxLen at hdm'
  go_enter Trym.func16, Trym.ntmps16
  go_wp2_with (at_builtin; refine wpList_app_new _ rfl _ _ rfl p n n xs rfl hx ?_ hsx1 ⟨w.heap.size, 0, none⟩ 1 1 [34] rfl rfl hlit ?_ ?_ ?_)
  · exact fun h => ⟨hp h, hp h⟩
  · omega
  · omega
  intro v1 w1 hown hgrow
  have hbel : Below w.heap.size w w1 := hb1.grown hgrow (by simp) (fun k h => by cases h)
  have hown1 : w1.ownsRow w.heap.size 5 1 v1 (xs ++ [34]).length (by8 (xs ++ [34])) := by
    have h := ownsRow_base hown (show w.heap.size ≤ _ by simp)
    have e : (xs ++ [34]).length = n + 1 := by simp [hx]
    rw [e]
    exact h
  have Hc := hide hc
  have Hby := hide hby
  have Hs := hide hs
  clear hown hgrow hlit hsx1 hsx hp hb1 hc hby hs
  go_wp2
  go_loopw [0, 5, 13] (fun v s i wr => ∃ (k st : Nat) (acc : List Int), st ≤ k ∧ k ≤ m ∧ s = .int .i64 st ∧ i = .int .i64 k ∧ wr.ownsRow w.heap.size 5 1 v acc.length (by8 acc) ∧ Below w.heap.size w wr ∧ acc.length ≤ n + 1 + 6 * st ∧ Hid (acc = (xs ++ [34]) ++ esc (ss.take st)) ∧ Hid (Pend ss st k)) (fun _ _ i _ => m - (intOf i).toNat)
  case atStart => exact ⟨0, 0, xs ++ [34], Nat.le_refl _, Nat.zero_le _, rfl, rfl, hown1, hbel, by simp; omega, hide (by simp [esc]), hide (pend_start _ _)⟩
  case round =>
    obtain ⟨k, st, acc, hst, hk, rfl, rfl, hown, hbel', hal, HA, HP⟩ := hrel
    clear hown1 hbel
    have hsz := hbel'.size
    by_cases hlt : k < m
    · obtain ⟨c, hcd⟩ : ∃ c, c = ss.getD k 0 := ⟨_, rfl⟩
      have hck : wr.cell? ⟨b, o + k, none⟩ = some (.int .u8 c) := by rw [hcd]; exact (hbel'.cell (by exact hb)).trans (unhide Hc k hlt)
      have hcb : 0 ≤ c ∧ c < 256 := by
        have hl := unhide Hs
        have : ss.getD k 0 ∈ ss := by simp [List.getD, show k < ss.length by omega]
        rw [hcd]
        exact unhide Hby _ this
      obtain ⟨hc0, hc1⟩ := hcb
      have Hcd := hide hcd
      clear hcd
      by_cases hr : 32 ≤ c ∧ c ≠ 34 ∧ c ≠ 92
      · have HP2 := hide (pend_raw (unhide HP) hst (by have := unhide Hs; omega) (by rw [← unhide Hcd]; exact hr))
        obtain ⟨hr1, hr2, hr3⟩ := hr
        have hr2' : (c != 34) = true := by rw [bne_iff_ne]; exact hr2
        have hr3' : (c != 92) = true := by rw [bne_iff_ne]; exact hr3
        have HO := hide hown
        clear hown hr2 hr3
        go_wp2
        go_roundw
        case rel => exact ⟨k + 1, st, acc, by omega, by omega, rfl, by go_num, unhide HO, hbel', hal, HA, HP2⟩
        case measure => simp [intOf]; omega
      · have hsrc : Shows wr (some ⟨b, o + st, none⟩) (k - st) ((ss.drop st).take (k - st)) := by
          refine .inr ⟨b, o + st, rfl, by omega, fun i hi => ?_⟩
          have := (hbel'.cell (p := ⟨b, o + st + i, none⟩) (by exact hb))
          rw [this, Nat.add_assoc, unhide Hc (st + i) (by omega), List.getD_eq_getElem?_getD, List.getD_eq_getElem?_getD, List.getElem?_take_of_lt hi, List.getElem?_drop]
        have hsl : ((ss.drop st).take (k - st)).length = k - st := by have := unhide Hs; simp; omega
        have HE := hide (pend_esc (unhide HP) (by have := unhide Hs; omega) (xs ++ [34]))
        rw [← unhide HA, ← unhide Hcd] at HE
        have Hsl := hide hsl
        have Hsrc := hide hsrc
        have HO := hide hown
        clear hsl hsrc hown
        by_cases h34 : c = 34
        · subst h34
          go_wp2_with (at_builtin; refine wpList_app _ rfl (.tmp 28) (.tmp 32) rfl w.heap.size _ _ acc rfl (unhide HO) (some ⟨b, o + st, none⟩) (k - st) (d - st) ((ss.drop st).take (k - st)) rfl (unhide Hsl) (unhide Hsrc) (fun h => by cases h) (by omega) (by omega) ?_)
          intro v2 w2 hown2 hgrow2
          have hbel2 := bel_app hbel' (unhide HO) hgrow2 hsz
          have hsz2 := hbel2.size
          have HO2 := hide hown2
          clear hown2 hgrow2
          have hlit : ∀ W : World, Shows (W.alloc (.cells #[.int .u8 92, .int .u8 34] 5)) (some ⟨W.heap.size, 0, none⟩) 2 [92, 34] := fun W => shows_lit W [92, 34] 5
          have Hlit := hide hlit
          clear hlit
          go_wp2_with (at_builtin; refine wpList_app _ rfl (.tmp 47) (.tmp 49) rfl w.heap.size _ _ (acc ++ (ss.drop st).take (k - st)) rfl ((unhide HO2).alloc _) (some ⟨w2.heap.size, 0, none⟩) 2 2 [92, 34] rfl rfl (unhide Hlit w2) (fun h => by cases h) (by omega) (by simp; omega) ?_)
          intro v3 w3 hown3 hgrow3
          have hbel3 := bel_app (hbel2.alloc hsz2 _) ((unhide HO2).alloc _) hgrow3 (by simp; omega)
          have HO3 := hide (own_fix hown3)
          clear hown3 hgrow3
          go_wp2
          go_roundw
          case rel =>
            go_light
            rw [esc1_two (.inl rfl)] at HE
            have hl := congrArg List.length (unhide HE)
            have hl2 := unhide Hsl
            exact ⟨k + 1, k + 1, _, Nat.le_refl _, by omega, by go_num, by go_num, unhide HO3, hbel3, by simp only [List.length_append, List.length_cons, List.length_nil, hl2]; omega, hide ((List.append_assoc _ _ _).symm.trans (unhide HE)), hide (pend_start _ _)⟩
          case measure => go_light; simp [intOf]; omega
        · by_cases h92 : c = 92
          · subst h92
            go_wp2_with (at_builtin; refine wpList_app _ rfl (.tmp 28) (.tmp 32) rfl w.heap.size _ _ acc rfl (unhide HO) (some ⟨b, o + st, none⟩) (k - st) (d - st) ((ss.drop st).take (k - st)) rfl (unhide Hsl) (unhide Hsrc) (fun h => by cases h) (by omega) (by omega) ?_)
            intro v2 w2 hown2 hgrow2
            have hbel2 := bel_app hbel' (unhide HO) hgrow2 hsz
            have hsz2 := hbel2.size
            have HO2 := hide hown2
            clear hown2 hgrow2
            have hlit : ∀ W : World, Shows (W.alloc (.cells #[.int .u8 92, .int .u8 92] 5)) (some ⟨W.heap.size, 0, none⟩) 2 [92, 92] := fun W => shows_lit W [92, 92] 5
            have Hlit := hide hlit
            clear hlit
            go_wp2_with (at_builtin; refine wpList_app _ rfl (.tmp 47) (.tmp 49) rfl w.heap.size _ _ (acc ++ (ss.drop st).take (k - st)) rfl ((unhide HO2).alloc _) (some ⟨w2.heap.size, 0, none⟩) 2 2 [92, 92] rfl rfl (unhide Hlit w2) (fun h => by cases h) (by omega) (by simp; omega) ?_)
            intro v3 w3 hown3 hgrow3
            have hbel3 := bel_app (hbel2.alloc hsz2 _) ((unhide HO2).alloc _) hgrow3 (by simp; omega)
            have HO3 := hide (own_fix hown3)
            clear hown3 hgrow3
            go_wp2
            go_roundw
            case rel =>
              go_light
              rw [esc1_two (.inr rfl)] at HE
              have hl := congrArg List.length (unhide HE)
              have hl2 := unhide Hsl
              exact ⟨k + 1, k + 1, _, Nat.le_refl _, by omega, by go_num, by go_num, unhide HO3, hbel3, by simp only [List.length_append, List.length_cons, List.length_nil, hl2]; omega, hide ((List.append_assoc _ _ _).symm.trans (unhide HE)), hide (pend_start _ _)⟩
            case measure => go_light; simp [intOf]; omega
          · by_cases h10 : c = 10
            · subst h10
              go_wp2_with (at_builtin; refine wpList_app _ rfl (.tmp 28) (.tmp 32) rfl w.heap.size _ _ acc rfl (unhide HO) (some ⟨b, o + st, none⟩) (k - st) (d - st) ((ss.drop st).take (k - st)) rfl (unhide Hsl) (unhide Hsrc) (fun h => by cases h) (by omega) (by omega) ?_)
              intro v2 w2 hown2 hgrow2
              have hbel2 := bel_app hbel' (unhide HO) hgrow2 hsz
              have hsz2 := hbel2.size
              have HO2 := hide hown2
              clear hown2 hgrow2
              have hlit : ∀ W : World, Shows (W.alloc (.cells #[.int .u8 92, .int .u8 110] 5)) (some ⟨W.heap.size, 0, none⟩) 2 [92, 110] := fun W => shows_lit W [92, 110] 5
              have Hlit := hide hlit
              clear hlit
              go_wp2_with (at_builtin; refine wpList_app _ rfl (.tmp 53) (.tmp 54) rfl w.heap.size _ _ (acc ++ (ss.drop st).take (k - st)) rfl ((unhide HO2).alloc _) (some ⟨w2.heap.size, 0, none⟩) 2 2 [92, 110] rfl rfl (unhide Hlit w2) (fun h => by cases h) (by omega) (by simp; omega) ?_)
              intro v3 w3 hown3 hgrow3
              have hbel3 := bel_app (hbel2.alloc hsz2 _) ((unhide HO2).alloc _) hgrow3 (by simp; omega)
              have HO3 := hide (own_fix hown3)
              clear hown3 hgrow3
              go_wp2
              go_roundw
              case rel =>
                go_light
                rw [esc1_nl] at HE
                have hl := congrArg List.length (unhide HE)
                have hl2 := unhide Hsl
                exact ⟨k + 1, k + 1, _, Nat.le_refl _, by omega, by go_num, by go_num, unhide HO3, hbel3, by simp only [List.length_append, List.length_cons, List.length_nil, hl2]; omega, hide ((List.append_assoc _ _ _).symm.trans (unhide HE)), hide (pend_start _ _)⟩
              case measure => go_light; simp [intOf]; omega
            · have h32 : c < 32 := by omega
              have h34' : (c == 34) = false := beq_eq_false_iff_ne.2 h34
              have h92' : (c == 92) = false := beq_eq_false_iff_ne.2 h92
              have h10' : (c == 10) = false := beq_eq_false_iff_ne.2 h10
              go_wp2_with (at_builtin; refine wpList_app _ rfl (.tmp 28) (.tmp 32) rfl w.heap.size _ _ acc rfl (unhide HO) (some ⟨b, o + st, none⟩) (k - st) (d - st) ((ss.drop st).take (k - st)) rfl (unhide Hsl) (unhide Hsrc) (fun h => by cases h) (by omega) (by omega) ?_)
              intro v2 w2 hown2 hgrow2
              have hbel2 := bel_app hbel' (unhide HO) hgrow2 hsz
              have hsz2 := hbel2.size
              have HO2 := hide hown2
              clear hown2 hgrow2
              have hx1 := fun W => hex_hi c hc0 h32 W
              have hx2 := fun W => hex_lo c hc0 h32 W
              have hlit : ∀ W : World, Shows (W.alloc (.cells #[.int .u8 92, .int .u8 117, .int .u8 48, .int .u8 48, .int .u8 (hexd (c / 16)), .int .u8 (hexd (c % 16))] 5)) (some ⟨W.heap.size, 0, none⟩) 6 [92, 117, 48, 48, hexd (c / 16), hexd (c % 16)] := fun W => shows_lit W [92, 117, 48, 48, hexd (c / 16), hexd (c % 16)] 5
              have Hlit := hide hlit
              clear hlit
              go_wp2_with fail
              go_region_law (refine step_app _ rfl (.tmp 35) (.tmp 42) rfl w.heap.size _ _ (acc ++ (ss.drop st).take (k - st)) rfl ((unhide HO2).alloc _) (some ⟨w2.heap.size, 0, none⟩) 6 6 [92, 117, 48, 48, hexd (c / 16), hexd (c % 16)] rfl rfl (unhide Hlit w2) (fun h => by cases h) (by omega) (by simp; omega) ?_; intro v3 w3 hown3 hgrow3)
              all_goals
                have hbel3 := bel_app (hbel2.alloc hsz2 _).drew ((unhide HO2).alloc _) hgrow3 (by simp; omega)
                have HO3 := hide (own_fix hown3)
                clear hown3 hgrow3 hx1 hx2
                go_wp2
                go_roundw
                case rel =>
                  go_light
                  rw [esc1_six h32 h10] at HE
                  have hl := congrArg List.length (unhide HE)
                  have hl2 := unhide Hsl
                  exact ⟨k + 1, k + 1, _, Nat.le_refl _, by omega, by go_num, by go_num, unhide HO3, hbel3, by simp only [List.length_append, List.length_cons, List.length_nil, hl2]; omega, HE, hide (pend_start _ _)⟩
                case measure => go_light; simp [intOf]; omega
    · obtain rfl : k = m := by omega
      have HE := hide (pend_end (by have := unhide HP; rw [← unhide Hs] at this; exact this) (xs ++ [34]))
      rw [← unhide HA] at HE
      have Hso : Hid (∀ ao : Option Addr, (ao = some ⟨b, o + st, none⟩ ∨ k = st) → Shows wr ao (k - st) (ss.drop st)) := by
        rintro ao (rfl | h)
        · refine .inr ⟨b, o + st, rfl, by omega, fun i hi => ?_⟩
          have := (hbel'.cell (p := ⟨b, o + st + i, none⟩) (by exact hb))
          rw [this, Nat.add_assoc, unhide Hc (st + i) (by omega), List.getD_eq_getElem?_getD, List.getD_eq_getElem?_getD, List.getElem?_drop]
        · exact .inl (by omega)
      have hsl : (ss.drop st).length = k - st := by have := unhide Hs; simp; omega
      have Hsl := hide hsl
      have HO := hide hown
      clear hsl hown
      by_cases hd : d = st
      · obtain rfl : st = k := by omega
        obtain rfl : d = st := hd
        have hso := unhide Hso (some ⟨b, o, none⟩) (.inr rfl)
        rw [Nat.sub_self] at hso
        have Hso' := hide hso
        have hdr : ss.drop d = [] := List.drop_of_length_le (by have := unhide Hs; omega)
        rw [hdr] at HE Hso'
        rw [List.append_nil] at HE
        clear hso
        go_wp2_with (at_builtin; refine wpList_app _ rfl (.tmp 59) (.tmp 62) rfl w.heap.size _ _ acc rfl (unhide HO) (some ⟨b, o, none⟩) 0 0 [] rfl rfl (unhide Hso') (fun h => by cases h) (by omega) (by omega) ?_)
        intro v2 w2 hown2 hgrow2
        have hbel2 := bel_app hbel' (unhide HO) hgrow2 hsz
        have hsz2 := hbel2.size
        have HO2 := hide (own_fix hown2)
        rw [unhide HE] at HO2
        clear hown2 hgrow2
        go_wp2_with (at_builtin; refine wpList_app _ rfl (.tmp 64) (.tmp 65) rfl w.heap.size _ _ _ rfl ((unhide HO2).alloc _) (some ⟨w2.heap.size, 0, none⟩) 1 1 [34] rfl rfl (shows_lit w2 [34] 5) (fun h => by cases h) ?_ (by simp; omega) ?_)
        · have h5 := esc_length ss
          have h6 := unhide Hs
          simp only [List.length_append, List.length_cons, List.length_nil]
          omega
        intro v3 w3 hown3 hgrow3
        have hbel3 := bel_app (hbel2.alloc hsz2 _) ((unhide HO2).alloc _) hgrow3 (by simp; omega)
        have HO3 := hide (own_fix hown3)
        clear hown3 hgrow3
        go_wp2
        go_ret
        refine ⟨v3, rfl, ?_, hbel3⟩
        rw [enc_form]
        exact unhide HO3
      · have Hso' := hide (unhide Hso (some ⟨b, o + st, none⟩) (.inl rfl))
        have hd2 : st < d := by omega
        go_wp2_with (at_builtin; refine wpList_app _ rfl (.tmp 59) (.tmp 62) rfl w.heap.size _ _ acc rfl (unhide HO) (some ⟨b, o + st, none⟩) (k - st) (d - st) (ss.drop st) rfl (unhide Hsl) (unhide Hso') (fun h => by cases h) (by omega) (by omega) ?_)
        intro v2 w2 hown2 hgrow2
        have hbel2 := bel_app hbel' (unhide HO) hgrow2 hsz
        have hsz2 := hbel2.size
        have HO2 := hide (own_fix hown2)
        rw [unhide HE] at HO2
        clear hown2 hgrow2
        go_wp2_with (at_builtin; refine wpList_app _ rfl (.tmp 64) (.tmp 65) rfl w.heap.size _ _ _ rfl ((unhide HO2).alloc _) (some ⟨w2.heap.size, 0, none⟩) 1 1 [34] rfl rfl (shows_lit w2 [34] 5) (fun h => by cases h) ?_ (by simp; omega) ?_)
        · have h5 := esc_length ss
          have h6 := unhide Hs
          simp only [List.length_append, List.length_cons, List.length_nil]
          omega
        intro v3 w3 hown3 hgrow3
        have hbel3 := bel_app (hbel2.alloc hsz2 _) ((unhide HO2).alloc _) hgrow3 (by simp; omega)
        have HO3 := hide (own_fix hown3)
        clear hown3 hgrow3
        go_wp2
        go_ret
        refine ⟨v3, rfl, ?_, hbel3⟩
        rw [enc_form]
        exact unhide HO3

set_option maxHeartbeats 1000000 in
theorem enc_zero (p : Option Addr) (n : Nat) (xs : List Int) (q : Option Addr) (d : Nat) (w : World) (hx : xs.length = n) (hn : n ≤ 1048576) (hp : p = none → n = 0) (hsx : Shows w p n xs) (hq : q = none → d = 0) :
    Calls Trym.prog 16 #[.slice p n n, .slice q 0 d] w fun e w' => ∃ v, e = .returned v ∧ w'.ownsRow w.heap.size 5 1 v (xs ++ 34 :: esc [] ++ [34]).length (by8 (xs ++ 34 :: esc [] ++ [34])) ∧ Below w.heap.size w w' := by
  have hb1 : Below w.heap.size w (w.alloc (.cells #[.int .u8 34] 5)) := (Below.refl _ _).alloc (Nat.le_refl _) _
  have hlit : Shows (w.alloc (.cells #[.int .u8 34] 5)) (some ⟨w.heap.size, 0, none⟩) 1 [34] := shows_lit w [34] 5
  have hsx1 := hsx.below hb1
  go_enter Trym.func16, Trym.ntmps16
  go_wp2_with (at_builtin; refine wpList_app_new _ rfl _ _ rfl p n n xs rfl hx ?_ hsx1 ⟨w.heap.size, 0, none⟩ 1 1 [34] rfl rfl hlit ?_ ?_ ?_)
  · exact fun h => ⟨hp h, hp h⟩
  · omega
  · omega
  intro v1 w1 hown hgrow
  have hbel : Below w.heap.size w w1 := hb1.grown hgrow (by simp) (fun k h => by cases h)
  have hsz := hbel.size
  have HO := hide (own_fix (ownsRow_base hown (show w.heap.size ≤ _ by simp)))
  clear hown hgrow hlit hsx1 hsx hp hb1
  go_wp2
  refine wp_loop_rounds 1 ?_
  rw [rounds_succ]
  cases q with
  | none =>
    obtain rfl := hq rfl
    go_wp2_with (at_builtin; refine wpList_app _ rfl (.tmp 59) (.tmp 62) rfl w.heap.size _ _ (xs ++ [34]) rfl (unhide HO) none 0 0 [] rfl rfl (.inl rfl) (fun _ => ⟨rfl, rfl⟩) (by simp; omega) (by omega) ?_)
    intro v2 w2 hown2 hgrow2
    have hbel2 := bel_app hbel (unhide HO) hgrow2 hsz
    have hsz2 := hbel2.size
    have HO2 := hide (own_fix hown2)
    clear hown2 hgrow2
    go_wp2_with (at_builtin; refine wpList_app _ rfl (.tmp 64) (.tmp 65) rfl w.heap.size _ _ (xs ++ [34]) rfl ((unhide HO2).alloc _) (some ⟨w2.heap.size, 0, none⟩) 1 1 [34] rfl rfl (shows_lit w2 [34] 5) (fun h => by cases h) (by simp; omega) (by simp; omega) ?_)
    intro v3 w3 hown3 hgrow3
    have hbel3 := bel_app (hbel2.alloc hsz2 _) ((unhide HO2).alloc _) hgrow3 (by simp; omega)
    have HO3 := hide (own_fix hown3)
    clear hown3 hgrow3
    go_wp2
    go_ret
    refine ⟨v3, rfl, ?_, hbel3⟩
    have e : xs ++ 34 :: esc [] ++ [34] = xs ++ [34, 34] := by simp [esc]
    rw [e]
    simpa using unhide HO3
  | some a =>
    go_wp2_with (at_builtin; refine wpList_app _ rfl (.tmp 59) (.tmp 62) rfl w.heap.size _ _ (xs ++ [34]) rfl (unhide HO) (some a) 0 d [] rfl rfl (.inl rfl) (fun h => by cases h) (by simp; omega) (by omega) ?_)
    intro v2 w2 hown2 hgrow2
    have hbel2 := bel_app hbel (unhide HO) hgrow2 hsz
    have hsz2 := hbel2.size
    have HO2 := hide (own_fix hown2)
    clear hown2 hgrow2
    go_wp2_with (at_builtin; refine wpList_app _ rfl (.tmp 64) (.tmp 65) rfl w.heap.size _ _ (xs ++ [34]) rfl ((unhide HO2).alloc _) (some ⟨w2.heap.size, 0, none⟩) 1 1 [34] rfl rfl (shows_lit w2 [34] 5) (fun h => by cases h) (by simp; omega) (by simp; omega) ?_)
    intro v3 w3 hown3 hgrow3
    have hbel3 := bel_app (hbel2.alloc hsz2 _) ((unhide HO2).alloc _) hgrow3 (by simp; omega)
    have HO3 := hide (own_fix hown3)
    clear hown3 hgrow3
    go_wp2
    go_ret
    refine ⟨v3, rfl, ?_, hbel3⟩
    have e : xs ++ 34 :: esc [] ++ [34] = xs ++ [34, 34] := by simp [esc]
    rw [e]
    simpa using unhide HO3

/-- appendString, whatever slices (the first one full). -/
theorem enc_any (p : Option Addr) (n : Nat) (xs : List Int) (q : Option Addr) (m d : Nat) (ss : List Int) (w : World) (hx : xs.length = n) (hn : n ≤ 1048576) (hp : p = none → n = 0) (hsx : Shows w p n xs)
    (hs : ss.length = m) (hm : m ≤ 1048576) (hmd : m ≤ d) (hdm : d ≤ maxLen) (hq : q = none → d = 0) (hby : ∀ x ∈ ss, 0 ≤ x ∧ x < 256) (hss : Shows w q m ss) :
    Calls Trym.prog 16 #[.slice p n n, .slice q m d] w fun e w' => ∃ v, e = .returned v ∧ w'.ownsRow w.heap.size 5 1 v (xs ++ 34 :: esc ss ++ [34]).length (by8 (xs ++ 34 :: esc ss ++ [34])) ∧ Below w.heap.size w w' := by
  rcases hss with rfl | ⟨b, o, rfl, hb, hc⟩
  · have := List.eq_nil_of_length_eq_zero hs
    subst this
    exact enc_zero p n xs q d w hx hn hp hsx hq
  · exact enc_some p n xs b o m d ss w hx hn hp hsx hs hm hmd hdm hb hby hc

/-- ZZappendString. -/
theorem zzenc_any (p : Option Addr) (n : Nat) (xs : List Int) (q : Option Addr) (m d : Nat) (ss : List Int) (w : World) (hx : xs.length = n) (hn : n ≤ 1048576) (hp : p = none → n = 0) (hsx : Shows w p n xs)
    (hs : ss.length = m) (hm : m ≤ 1048576) (hmd : m ≤ d) (hdm : d ≤ maxLen) (hq : q = none → d = 0) (hby : ∀ x ∈ ss, 0 ≤ x ∧ x < 256) (hss : Shows w q m ss) :
    Calls Trym.prog 12 #[.slice p n n, .slice q m d] w fun e w' => ∃ v, e = .returned v ∧ w'.ownsRow w.heap.size 5 1 v (xs ++ 34 :: esc ss ++ [34]).length (by8 (xs ++ 34 :: esc ss ++ [34])) ∧ Below w.heap.size w w' := by
  have HT := hide (enc_any p n xs q m d ss w hx hn hp hsx hs hm hmd hdm hq hby hss)
  clear hsx hby hss hp hq hx hs
  go_enter Trym.func12, Trym.ntmps12
  go_wp2_with fail
  refine (unhide HT).mono ?_
  rintro e w' ⟨v, rfl, h1, h2⟩
  have H1 := hide h1
  clear h1
  go_wp2
  go_ret
  exact ⟨v, rfl, unhide H1, h2⟩

end Go.Proofs.Qxb6601444aMods
