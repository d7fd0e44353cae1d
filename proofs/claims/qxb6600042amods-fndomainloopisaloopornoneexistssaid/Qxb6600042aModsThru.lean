import Derived.Test.Qxb6600042aModsRev
import Derived.Test.Qxb6600042aModsCyc
namespace Go.Proofs.Qxb6600042aMods
open Go.RowKit

set_option maxHeartbeats 2000000 in
theorem thru_any (gt b o n c : Nat) (P : List Int) (x p : Nat) (w : World) (hP : OkP P) (hn : P.length = n) (hnm : n ≤ 1048576) (hx : x < n) (hcy : Cyc P (x : Int) p) (hgt : gt < w.heap.size) (hb : b < w.heap.size)
    (ht : w.cell? ⟨gt, 0, none⟩ = some (.slice (some ⟨b, o, none⟩) n c)) (hc : ∀ i, i < n → w.cell? ⟨b, o + i, none⟩ = some (.int .i64 (P.getD i 0))) :
    Calls Trym.prog 20 #[.pointer (some ⟨gt, 0, none⟩), .int .i64 x] w fun e w' => ∃ v l, e = .returned v ∧ IsLoop P l ∧ l.length ≤ n ∧ v ≠ .slice none 0 0 ∧ w'.ownsRow w.heap.size 3 1 v l.length (ints l) ∧ Below w.heap.size w w' := by
  have HP := hide hP
  have Hn := hide hn
  have Hcy := hide hcy
  have Hc := hide hc
  have up1 : ∀ m : Nat, ∃ q : Nat, (q : Int) = upn P m (x : Int) ∧ q < n := by
    intro m
    have h1 := hcy.nonneg m
    have h2 := upn_lt P hP m (x : Int) (by omega)
    exact ⟨(upn P m (x : Int)).toNat, by omega, by omega⟩
  have Hup := hide up1
  have hpn : 1 ≤ p := hcy.pos
  have hpl : p ≤ n := by
    have := hcy.le hP (by omega)
    omega
  obtain ⟨q1, hq1, hq1n⟩ := up1 1
  have hcx : w.cell? ⟨b, o + x, none⟩ = some (.int .i64 (q1 : Int)) := by
    rw [hc x hx, hq1, ← stp_nat]; rfl
  have HQ1 := hide hq1
  clear hP hn hcy hc up1 hq1
  go_enter Trym.func20, Trym.ntmps20
  go_wp2
  go_loopg [5, 6] p (fun gk f nx wr => ∃ (m q fq : Nat), 1 ≤ m ∧ m ≤ p ∧ m + gk = p + 1 ∧ q < n ∧ fq < n ∧ f = .int .i64 fq ∧ nx = .int .i64 q ∧ w = wr ∧ Hid ((q : Int) = upn P m (x : Int)) ∧ Hid (∃ s, s < m ∧ (fq : Int) = upn P s (x : Int)) ∧ Hid (∀ t, t < m → (fq : Int) ≤ upn P t (x : Int)))
  case atStart =>
    refine ⟨1, q1, x, Nat.le_refl _, hpn, by omega, hq1n, hx, rfl, rfl, rfl, HQ1, hide ⟨0, by omega, rfl⟩, hide (fun t h => ?_)⟩
    have : t = 0 := by omega
    subst this
    exact Int.le_refl _
  case round =>
    obtain ⟨m, q, fq, hm1, hmp1, hmk, hqn, hfn, rfl, rfl, rfl, HQ, HF, HM⟩ := hrel
    clear hcx HQ1
    by_cases hqx : q = x
    · have hmp : m = p := by
        have h1 := (unhide Hcy).least m hm1 (by rw [← unhide HQ, hqx])
        omega
      have hcf : Cyc P (fq : Int) p ∧ ∀ t, (fq : Int) ≤ upn P t (fq : Int) := by
        obtain ⟨s, hs1, hs2⟩ := unhide HF
        have h1 := (unhide Hcy).shift s
        rw [← hs2] at h1
        refine ⟨h1, fun t => ?_⟩
        have h2 := unhide HM ((t + s) % p) (by rw [hmp]; exact Nat.mod_lt _ (by omega))
        have e : upn P t (fq : Int) = upn P ((t + s) % p) (x : Int) := by
          rw [hs2, ← upn_add]
          have h3 := Nat.mod_add_div (t + s) p
          rw [← h3, upn_add]
          rw [(unhide Hcy).mul]
          rw [h3]
        rw [e]
        exact h2
      have HCF := hide hcf.1
      have HMF := hide hcf.2
      have upf : ∀ m : Nat, ∃ q : Nat, (q : Int) = upn P m (fq : Int) ∧ q < n := by
        intro m
        have h1 := hcf.1.nonneg m
        have h2 := upn_lt P (unhide HP) m (fq : Int) (by have := unhide Hn; omega)
        have h3 := unhide Hn
        exact ⟨(upn P m (fq : Int)).toNat, by omega, by omega⟩
      obtain ⟨r1, hr1, hr1n⟩ := upf 1
      have hcr : w.cell? ⟨b, o + fq, none⟩ = some (.int .i64 (r1 : Int)) := by
        rw [unhide Hc fq hfn, hr1, ← stp_nat]; rfl
      have HR1 := hide hr1
      have Hupf := hide upf
      have hqx' : ((q : Int) != (x : Int)) = false := by simp [hqx]
      clear hcf upf hr1 hqx hmp HQ HF HM Hup
      go_wp2
      go_loopg [7, 8] p (fun gk v nx wx => ∃ (t q : Nat), 1 ≤ t ∧ t ≤ p ∧ t + gk = p + 1 ∧ q < n ∧ nx = .int .i64 q ∧ wx.ownsRow w.heap.size 3 1 v (t - 1) (ints (ups P (fq : Int) (t - 1))) ∧ Below w.heap.size w wx ∧ Hid ((q : Int) = upn P t (fq : Int)))
      case atStart => exact ⟨1, r1, Nat.le_refl _, hpn, by omega, hr1n, rfl, World.ownsRow_nil _ _ _ _, Below.refl _ _, HR1⟩
      case round =>
        obtain ⟨t, r, ht1, htp, htk, hrn, rfl, hown, hbel, HR⟩ := hrel
        have hsz := hbel.size
        have HO := hide hown
        have ht2 : wr.cell? ⟨gt, 0, none⟩ = some (.slice (some ⟨b, o, none⟩) n c) := (hbel.cell (by exact hgt)).trans (by assumption)
        clear hown hcr HR1
        by_cases hrf : r = fq
        · have htp2 : t = p := by
            have h1 := (unhide HCF).least t ht1 (by rw [← unhide HR, hrf])
            omega
          have hrf' : ((r : Int) != (fq : Int)) = false := by simp [hrf]
          have hlist := lp_eq (unhide HCF)
          have hloop := isLoop_lp (unhide HP) (by have := unhide Hn; omega) (unhide HCF) (unhide HMF)
          have HLI := hide hlist
          have HLO := hide hloop
          rw [htp2] at HO
          clear hrf htp2 hlist hloop
          go_wp2_with fail
          refine (reverse_own _ _ _ _ _ (by omega) (unhide HO)).mono ?_
          rintro e w2 ⟨rfl, hown2, hb2⟩
          have hbel2 := hbel.trans hb2
          have hsz2 := hbel2.size
          obtain ⟨pu, cu, hv, g1, g2, g3, g4, g5⟩ := shows_own hown2
          rw [hv]
          have G3 := hide g3
          have hb3 : Below w2.heap.size w2 (w2.alloc (.cells #[.int .i64 (fq : Int)] 3)) := (Below.refl _ _).alloc (Nat.le_refl _) _
          have G4 := hide (g4.below hb3 (Nat.le_refl _))
          have G5 := hide g5
          have HL1 : Hid ((w2.alloc (.cells #[.int .i64 (fq : Int)] 3)).ownsRow w.heap.size 3 1 (.slice (some ⟨w2.heap.size, 0, none⟩) 1 1) 1 (ints [(fq : Int)])) :=
            own_of_blk (heap_new w2 _) hsz2 rfl (by unfold maxLen; omega)
          clear hown2 hv g3 g4 g5 hb2
          go_wp2_with (at_builtin; refine wpList_cat _ rfl (.tmp 54) (.tmp 55) rfl w.heap.size _ _ [(fq : Int)] rfl (unhide HL1) pu (p - 1) cu _ rfl (unhide G3) (unhide G4) (unhide G5) (by omega) (by simp; omega) ?_)
          intro v3 w3 hown3 hgrow3
          have hbel3 := bel_own (hbel2.alloc hsz2 _) (unhide HL1) hgrow3 (by simp; omega)
          have HO3 := hide (own_fix hown3)
          clear hown3 hgrow3
          go_wp2
          go_ret
          go_light
          have h5 := unhide HO3
          rw [unhide HLI] at h5
          refine ⟨v3, lp P (fq : Int) p, rfl, unhide HLO, by rw [lp_length]; exact hpl, ?_, h5, hbel3⟩
          rintro rfl
          have h6 := (unhide HLO).pos
          rcases h5.2 with ⟨_, h7⟩ | ⟨g, cap, cur, h7, _⟩
          · omega
          · cases h7
        · have hrf' : ((r : Int) != (fq : Int)) = true := by rw [bne_iff_ne]; omega
          have htlt : t < p := by
            rcases Nat.lt_or_ge t p with h | h
            · exact h
            · exfalso
              have e : t = p := by omega
              apply hrf
              have h1 := unhide HR
              rw [e, (unhide HCF).back] at h1
              omega
          obtain ⟨r2, hr2, hr2n⟩ := unhide Hupf (t + 1)
          have hcr2 : wr.cell? ⟨b, o + r, none⟩ = some (.int .i64 (r2 : Int)) := by
            rw [hbel.cell (by exact hb), unhide Hc r hrn, hr2, upn_succ, ← unhide HR, stp_nat]
          have HR2 := hide hr2
          clear hr2 hrf
          go_wp2_with (at_builtin; refine wpList_push _ rfl (.tmp 47) (.tmp 49) rfl _ _ _ (ups P (fq : Int) (t - 1)) rfl (unhide HO) (r : Int) _ rfl rfl (by omega) hsz ?_)
          intro v2 w2 hown2 hgrow2 _
          have hbel2 := bel_own (hbel.alloc hsz _) ((unhide HO).alloc _) hgrow2 (by simp; omega)
          have HO2 := hide hown2
          have ht3 : w2.cell? ⟨gt, 0, none⟩ = some (.slice (some ⟨b, o, none⟩) n c) := (hbel2.cell (by exact hgt)).trans ht
          have hcr3 : w2.cell? ⟨b, o + r, none⟩ = some (.int .i64 (r2 : Int)) := by
            rw [hbel2.cell (by exact hb), ← hbel.cell (p := ⟨b, o + r, none⟩) (by exact hb)]; exact hcr2
          clear hown2 hgrow2
          go_wp2
          go_roundg (gk - 1)
          case measure => go_light; omega
          case rel =>
            go_light
            refine ⟨t + 1, r2, by omega, by omega, by omega, hr2n, rfl, ?_, hbel2, HR2⟩
            have h1 := unhide HO2
            rw [unhide HR] at h1
            have e : ups P (fq : Int) (t - 1) ++ [upn P t (fq : Int)] = ups P (fq : Int) (t + 1 - 1) := by
              have := ups_succ P (fq : Int) (t - 1)
              rw [show t - 1 + 1 = t by omega] at this
              rw [show t + 1 - 1 = t by omega, this]
            rw [e] at h1
            exact h1
    · have hqx' : ((q : Int) != (x : Int)) = true := by rw [bne_iff_ne]; omega
      have hmlt : m < p := by
        rcases Nat.lt_or_ge m p with h | h
        · exact h
        · exfalso
          have e : m = p := by omega
          apply hqx
          have h1 := unhide HQ
          rw [e, (unhide Hcy).back] at h1
          omega
      obtain ⟨q2, hq2, hq2n⟩ := unhide Hup (m + 1)
      have hcq : w.cell? ⟨b, o + q, none⟩ = some (.int .i64 (q2 : Int)) := by
        rw [unhide Hc q hqn, hq2, upn_succ, ← unhide HQ, stp_nat]
      have HQ2 := hide hq2
      clear hq2 hqx
      by_cases hlt : (q : Int) < fq
      · go_wp2
        go_roundg (gk - 1)
        case measure => go_light; omega
        case rel =>
          go_light
          refine ⟨m + 1, q2, q, by omega, by omega, by omega, hq2n, hqn, rfl, rfl, rfl, HQ2, hide ⟨m, by omega, unhide HQ⟩, hide (fun t h => ?_)⟩
          rcases Nat.lt_or_ge t m with h' | h'
          · have := unhide HM t h'
            omega
          · have e : t = m := by omega
            rw [e, ← unhide HQ]
            exact Int.le_refl _
      · go_wp2
        go_roundg (gk - 1)
        case measure => go_light; omega
        case rel =>
          go_light
          refine ⟨m + 1, q2, fq, by omega, by omega, by omega, hq2n, hfn, rfl, rfl, rfl, HQ2, hide ?_, hide (fun t h => ?_)⟩
          · obtain ⟨s, hs1, hs2⟩ := unhide HF
            exact ⟨s, by omega, hs2⟩
          rcases Nat.lt_or_ge t m with h' | h'
          · exact unhide HM t h'
          · have e : t = m := by omega
            rw [e, ← unhide HQ]
            omega

end Go.Proofs.Qxb6600042aMods
