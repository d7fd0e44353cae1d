import Derived.Test.Qxb6601444aModsHex
import Derived.Test.Qxb6601444aModsEscQ
import Derived.Deep.Light
namespace Go.Proofs.Qxb6601444aMods
open Go.RowKit

/-- What the hexadecimal loop has read behind j digits of the byte c. -/
def hv (c : Int) (j : Nat) : Int := if j ≤ 2 then 0 else if j = 3 then c / 16 else c

/-- The j-th hexadecimal digit of the byte c, written with four. -/
def hd (c : Int) (j : Nat) : Int := if j < 2 then 0 else if j = 2 then c / 16 else c % 16

theorem hd_ok (c : Int) (j : Nat) (h0 : 0 ≤ c) (h1 : c < 32) (hj : j < 4) :
    [92, 117, 48, 48, hexd (c / 16), hexd (c % 16)].getD (j + 2) 0 = hexd (hd c j) ∧ 0 ≤ hd c j ∧ hd c j < 16 ∧ hv c j * 16 + hd c j = hv c (j + 1) := by
  have : j = 0 ∨ j = 1 ∨ j = 2 ∨ j = 3 := by omega
  rcases this with rfl | rfl | rfl | rfl
  · simp [hd, hv, hexd]
  · simp [hd, hv, hexd]
  · simp [hd, hv]; omega
  · simp [hd, hv]; omega

theorem hv_le (c : Int) (j : Nat) (h0 : 0 ≤ c) (h1 : c < 32) (hj : j < 4) : 0 ≤ hv c j ∧ hv c j ≤ 1 := by
  have : j = 0 ∨ j = 1 ∨ j = 2 ∨ j = 3 := by omega
  rcases this with rfl | rfl | rfl | rfl
  all_goals simp [hv]
  omega

set_option maxHeartbeats 4000000 in
set_option maxRecDepth 100000 in
theorem decode_any (b o n c0 : Nat) (ss : List Int) (L : Nat) (w : World) (hs : ss.length = L) (hL : L ≤ 1048576) (hn : (34 :: esc ss ++ [34]).length = n) (hb : b < w.heap.size) (hby : ∀ x ∈ ss, 0 ≤ x ∧ x < 256)
    (hc : ∀ i, i < n → w.cell? ⟨b, o + i, none⟩ = some (.int .u8 ((34 :: esc ss ++ [34]).getD i 0))) :
    Calls Trym.prog 14 #[.slice (some ⟨b, o, none⟩) n c0] w fun e w' => ∃ v, e = .returned (.tuple #[v, .bool true]) ∧ w'.ownsRow w.heap.size 5 1 v L (by8 ss) ∧ Below w.heap.size w w' := by
  have hn2 : 2 ≤ n := by rw [← hn]; simp
  have hnl : n ≤ 10000000 := by
    have := esc_length ss
    rw [← hn]
    simp only [List.length_append, List.length_cons, List.length_nil]
    omega
  have hc0' : w.cell? ⟨b, o, none⟩ = some (.int .u8 34) := by simpa using hc 0 (by omega)
  have Hc := hide hc
  have Hn := hide hn
  have Hs := hide hs
  have Hby := hide hby
  clear hc hn hs hby
  obtain ⟨i0, hi, hz0, hz1, hz2⟩ := info_parts Trym.info5
  go_enter Trym.func14, Trym.ntmps14
  go_wp2_with (at_make; refine wpList_make_own _ rfl _ _ 22 rfl w.heap.size 5 i0 (.int .u8 0) 1 Trym.underlying22 hi hz0 hz1 .i64 .i64 _ n rfl rfl rfl ?c1 ?c2 ?c3 ?_)
  case c1 => rw [hz2]; omega
  case c2 => unfold maxLen; omega
  case c3 => exact Nat.le_refl _
  intro w1 hown hgrow
  have hbel : Below w.heap.size w w1 := (Below.refl _ _).grown hgrow (Nat.le_refl _) (fun k h => by cases h)
  have HO1 : Hid (w1.ownsRow w.heap.size 5 1 (.slice (some ⟨w.heap.size, 0, none⟩) 0 n) 0 (by8 [])) := hown
  clear hown hgrow hi hz0 hz1 hz2 hc0'
  go_wp2
  go_loopw [4, 5] (fun v i wr => ∃ k pos : Nat, k ≤ L ∧ i = .int .i64 pos ∧ Hid (pos = at_ ss k) ∧ wr.ownsRow w.heap.size 5 1 v k (by8 (ss.take k)) ∧ Below w.heap.size w wr) (fun _ i _ => n - (intOf i).toNat)
  case atStart => exact ⟨0, 1, Nat.zero_le _, rfl, hide (at_zero ss).symm, unhide HO1, hbel⟩
  case round =>
    obtain ⟨k, pos, hk, rfl, Hpos, hown, hbel'⟩ := hrel
    clear HO1 hbel
    have hsz := hbel'.size
    have HO := hide hown
    clear hown
    by_cases hlt : k < L
    · obtain ⟨c, hcd⟩ : ∃ c, c = ss.getD k 0 := ⟨_, rfl⟩
      have hlen : pos + (esc1 c).length < n := by
        rw [hcd, unhide Hpos, ← unhide Hn]
        exact at_lt ss k (by have := unhide Hs; omega)
      have hq : ∀ j, j < (esc1 c).length → wr.cell? ⟨b, o + (pos + j), none⟩ = some (.int .u8 ((esc1 c).getD j 0)) := by
        intro j hj
        rw [hbel'.cell (by exact hb), unhide Hc (pos + j) (by omega), unhide Hpos]
        rw [hcd] at hj ⊢
        rw [q_at ss k j (by have := unhide Hs; omega) hj]
      have hcb : 0 ≤ c ∧ c < 256 := by
        have hl := unhide Hs
        have : ss.getD k 0 ∈ ss := by simp [List.getD, show k < ss.length by omega]
        rw [hcd]
        exact unhide Hby _ this
      obtain ⟨hc0, hc1⟩ := hcb
      have Hcd := hide hcd
      clear hcd
      by_cases hr : 32 ≤ c ∧ c ≠ 34 ∧ c ≠ 92
      · have e1 := esc1_raw hr
        rw [e1] at hq hlen
        have hq0 : wr.cell? ⟨b, o + pos, none⟩ = some (.int .u8 c) := hq 0 (by simp)
        obtain ⟨hr1, hr2, hr3⟩ := hr
        have hr2' : (c == 34) = false := beq_eq_false_iff_ne.2 hr2
        have hr3' : (c != 92) = true := by rw [bne_iff_ne]; exact hr3
        have hlen' : pos < n := by simp at hlen; omega
        have He1 := hide e1
        clear hq hlen hr2 hr3 e1
        go_wp2_with (at_builtin; refine wpList_app _ rfl (.tmp 45) (.tmp 47) rfl w.heap.size _ _ (ss.take k) rfl ((unhide HO).alloc _) (some ⟨wr.heap.size, 0, none⟩) 1 1 [c] rfl rfl (shows_lit wr [c] 5) (fun h => by cases h) (by omega) (by simp; omega) ?_)
        intro v2 w2 hown2 hgrow2
        have hbel2 := bel_app (hbel'.alloc hsz _) ((unhide HO).alloc _) hgrow2 (by simp; omega)
        have HO2 := hide hown2
        clear hown2 hgrow2
        go_wp2
        go_roundw
        case rel =>
          go_light
          refine ⟨k + 1, pos + 1, by omega, by go_num, hide ?_, ?_, hbel2⟩
          · have h1 := at_succ ss k (by have := unhide Hs; omega)
            rw [← unhide Hcd, unhide He1] at h1
            rw [h1, unhide Hpos]
            rfl
          · have h2 := unhide HO2
            rwa [take_snoc ss k (by have := unhide Hs; omega), ← unhide Hcd]
        case measure => go_light; simp [intOf]; omega
      · by_cases h2 : c = 34 ∨ c = 92
        · have e1 := esc1_two h2
          rw [e1] at hq hlen
          have hq0 : wr.cell? ⟨b, o + pos, none⟩ = some (.int .u8 92) := hq 0 (by simp)
          have hq1 : wr.cell? ⟨b, o + (pos + 1), none⟩ = some (.int .u8 c) := hq 1 (by simp)
          have hlen' : pos + 2 < n := by simpa using hlen
          have He1 := hide e1
          clear hq hlen hr e1
          rcases h2 with rfl | rfl
          all_goals
            go_wp2_with (at_builtin; refine wpList_app _ rfl (.tmp 66) (.tmp 68) rfl w.heap.size _ _ (ss.take k) rfl ((unhide HO).alloc _) (some ⟨wr.heap.size, 0, none⟩) 1 1 [_] rfl rfl (shows_lit wr [_] 5) (fun h => by cases h) (by omega) (by simp; omega) ?_)
            intro v2 w2 hown2 hgrow2
            have hbel2 := bel_app (hbel'.alloc hsz _) ((unhide HO).alloc _) hgrow2 (by simp; omega)
            have HO2 := hide hown2
            clear hown2 hgrow2
            go_wp2
            go_roundw
            case rel =>
              go_light
              refine ⟨k + 1, pos + 2, by omega, by go_num, hide ?_, ?_, hbel2⟩
              · have h1 := at_succ ss k (by have := unhide Hs; omega)
                rw [← unhide Hcd, unhide He1] at h1
                rw [h1, unhide Hpos]
                rfl
              · have h2 := unhide HO2
                rwa [take_snoc ss k (by have := unhide Hs; omega), ← unhide Hcd]
            case measure => go_light; simp [intOf]; omega
        · by_cases h10 : c = 10
          · subst h10
            rw [esc1_nl] at hq hlen
            have hq0 : wr.cell? ⟨b, o + pos, none⟩ = some (.int .u8 92) := hq 0 (by simp)
            have hq1 : wr.cell? ⟨b, o + (pos + 1), none⟩ = some (.int .u8 110) := hq 1 (by simp)
            have hlen' : pos + 2 < n := by simpa using hlen
            clear hq hlen hr
            go_wp2_with (at_builtin; refine wpList_app _ rfl (.tmp 88) (.tmp 89) rfl w.heap.size _ _ (ss.take k) rfl ((unhide HO).alloc _) (some ⟨wr.heap.size, 0, none⟩) 1 1 [10] rfl rfl (shows_lit wr [10] 5) (fun h => by cases h) (by omega) (by simp; omega) ?_)
            intro v2 w2 hown2 hgrow2
            have hbel2 := bel_app (hbel'.alloc hsz _) ((unhide HO).alloc _) hgrow2 (by simp; omega)
            have HO2 := hide hown2
            clear hown2 hgrow2
            go_wp2
            go_roundw
            case rel =>
              go_light
              refine ⟨k + 1, pos + 2, by omega, by go_num, hide ?_, ?_, hbel2⟩
              · have h1 := at_succ ss k (by have := unhide Hs; omega)
                rw [← unhide Hcd, esc1_nl] at h1
                rw [h1, unhide Hpos]
                rfl
              · have h2 := unhide HO2
                rwa [take_snoc ss k (by have := unhide Hs; omega), ← unhide Hcd]
            case measure => go_light; simp [intOf]; omega
          · have h32 : c < 32 := by omega
            have e1 := esc1_six h32 h10
            rw [e1] at hq hlen
            have hq0 : wr.cell? ⟨b, o + pos, none⟩ = some (.int .u8 92) := hq 0 (by simp)
            have hq1 : wr.cell? ⟨b, o + (pos + 1), none⟩ = some (.int .u8 117) := hq 1 (by simp)
            have hlen' : pos + 6 < n := by simpa using hlen
            have Hq := hide hq
            have He1 := hide e1
            clear hq hlen hr h2 h10 e1
            have d0 : decide (pos < n) = true := decide_eq_true (by omega)
            have d1 : decide ((pos : Int) < (n : Int)) = true := decide_eq_true (by omega)
            have d2 : decide ((n : Int) ≤ (pos : Int) + 1) = false := decide_eq_false (by omega)
            have d3 : decide ((n : Int) < (pos : Int) + 6) = false := decide_eq_false (by omega)
            go_wp2
            go_loopw [8, 9] (fun v i wx => ∃ (j : Nat) (u : Int), j ≤ 4 ∧ i = .int .i64 (pos + 2 + j : Nat) ∧ v = .int .i64 u ∧ wx = wr ∧ Hid (u = hv c j)) (fun _ i _ => pos + 6 - (intOf i).toNat)
            case atStart => exact ⟨0, 0, by omega, rfl, rfl, rfl, hide rfl⟩
            case round =>
              obtain ⟨j, u, hj, rfl, rfl, rfl, Hu⟩ := hrel
              by_cases hj4 : j = 4
              · subst hj4
                have hu : u = c := unhide Hu
                subst hu
                go_wp2_with fail
                refine (code_point w.heap.size _ k (ss.take k) u hc0 (by omega) _ hsz (by omega) (unhide HO)).mono ?_
                rintro e w2 ⟨v2, rfl, hown2, hb2⟩
                have hbel2 := hbel'.trans hb2
                have HO2 := hide hown2
                clear hown2 hb2
                go_wp2
                go_roundw
                case rel =>
                  go_light
                  refine ⟨k + 1, pos + 6, by omega, by go_num, hide ?_, ?_, hbel2⟩
                  · have h1 := at_succ ss k (by have := unhide Hs; omega)
                    rw [← unhide Hcd, unhide He1] at h1
                    rw [h1, unhide Hpos]
                    rfl
                  · have h2 := unhide HO2
                    rwa [take_snoc ss k (by have := unhide Hs; omega), ← unhide Hcd]
                case measure => go_light; simp [intOf]; omega
              · obtain ⟨d, hd⟩ : ∃ d, d = hd c j := ⟨_, rfl⟩
                have hdj := hd_ok c j hc0 h32 (by omega)
                have hcell := unhide Hq (j + 2) (by simp; omega)
                rw [hdj.1, ← hd, show pos + (j + 2) = pos + 2 + j by omega] at hcell
                have hstep := hdj.2.2.2
                rw [← hd] at hstep hdj
                have hd0 := hdj.2.1
                have hd1 := hdj.2.2.1
                have hu0 := hv_le c j hc0 h32 (by omega)
                rw [← unhide Hu] at hu0 hstep
                obtain ⟨hu0, hu1⟩ := hu0
                have Hstep := hide hstep
                have hj3 : j < 4 := by omega
                clear hdj hd hstep hj4
                go_wp2_with fail
                refine (hex_val d hd0 hd1 _).mono ?_
                rintro e w' ⟨rfl, rfl⟩
                go_wp2
                go_roundw
                case rel =>
                  go_light
                  exact ⟨j + 1, u * 16 + d, by omega, by go_num, rfl, trivial, Hstep⟩
                case measure => go_light; simp [intOf]; omega
    · obtain rfl : k = L := by omega
      have hend := q_end ss
      rw [unhide Hs, ← unhide Hpos, unhide Hn] at hend
      have hq0 : wr.cell? ⟨b, o + pos, none⟩ = some (.int .u8 34) := by
        rw [hbel'.cell (by exact hb), unhide Hc pos (by omega), hend.1]
      have hpn : pos + 1 = n := hend.2.symm
      have hpe : ((pos : Int) == (n : Int) - 1) = true := beq_iff_eq.2 (by omega)
      have Hpn := hide hpn
      have hlen' : pos < n := by omega
      clear hend hpn
      have htk : ss.take k = ss := List.take_of_length_le (by have := unhide Hs; omega)
      rw [htk] at HO
      clear htk
      go_wp2
      go_ret2
      exact ⟨_, rfl, unhide HO, hbel'⟩

end Go.Proofs.Qxb6601444aMods
