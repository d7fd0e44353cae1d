import Derived.Test.Qxb6601975aModsVar
namespace Go.Proofs.Qxb6601975aMods
open Go.RowKit

theorem u8_and128_hi (x : Int) (h0 : 128 ≤ x) (h1 : x < 256) : bits BinOp.and .u8 x 128 = 128 := by
  have h : ∀ n : Fin 128, bits BinOp.and .u8 ((n.val : Int) + 128) 128 = 128 := by decide
  have := h ⟨(x - 128).toNat, by omega⟩
  rwa [show (((x - 128).toNat : Nat) : Int) + 128 = x by omega] at this

theorem u8_and128_lo (x : Int) (h0 : 0 ≤ x) (h1 : x < 128) : bits BinOp.and .u8 x 128 = 0 := by
  have h : ∀ n : Fin 128, bits BinOp.and .u8 (n.val : Int) 128 = 0 := by decide
  have := h ⟨x.toNat, by omega⟩
  rwa [show ((x.toNat : Nat) : Int) = x by omega] at this

theorem ret3 {a a' b b' : Int} (h1 : a = a') (h2 : b = b') : Ending.returned (.tuple #[.int .u64 a, .int .i64 b, .bool true]) = .returned (.tuple #[.int .u64 a', .int .i64 b', .bool true]) := by rw [h1, h2]

theorem enc_at (v j : Nat) (hj : j < (enc v).length) : 0 ≤ (enc v).getD j 0 ∧ (enc v).getD j 0 < 256 := by
  apply enc_range v
  rw [List.getD_eq_getElem?_getD, List.getElem?_eq_getElem hj, Option.getD_some]
  exact List.getElem_mem hj

set_option maxHeartbeats 1000000 in
theorem read_any (b o n c v : Nat) (w : World) (hv : v < 18446744073709551616) (hn : (enc v).length ≤ n) (_hnm : n ≤ 9223372036854775807)
    (hc : ∀ i, i < (enc v).length → w.cell? ⟨b, o + i, none⟩ = some (.int .u8 ((enc v).getD i 0))) :
    Calls Trym.prog 11 #[.slice (some ⟨b, o, none⟩) n c] w fun e w' => e = .returned (.tuple #[.int .u64 v, .int .i64 (enc v).length, .bool true]) ∧ w' = w := by
  have hp := enc_pos v
  have ht := enc_ten v hv
  obtain ⟨L, hL⟩ : ∃ L, L = (enc v).length := ⟨_, rfl⟩
  rw [← hL] at hn hc hp ht ⊢
  have HL := hide hL
  have Hc := hide hc
  clear hL hc
  go_enter Trym.func11, Trym.ntmps11
  go_wp2
  go_loopw [5, 6] (fun a i wr => ∃ j u : Nat, j < L ∧ i = .int .i64 j ∧ a = .int .u64 u ∧ wr = w ∧ Hid (u = rd v j)) (fun _ i _ => L - (intOf i).toNat)
  case atStart => exact ⟨0, 0, by omega, rfl, rfl, rfl, hide (rd_zero v hv).symm⟩
  case round =>
    obtain ⟨j, u, hj, rfl, rfl, rfl, HU⟩ := hrel
    have hu : u < 144115188075855872 := by rw [unhide HU]; exact rd_small v j hv (by rw [← unhide HL]; exact hj)
    have hstep := rd_step v j (by rw [← unhide HL]; exact hj)
    rw [← unhide HU] at hstep
    have hr := enc_at v j (by rw [← unhide HL]; exact hj)
    obtain ⟨t, htd⟩ : ∃ t, t = (enc v).getD j 0 := ⟨_, rfl⟩
    have hcell : wr.cell? ⟨b, o + j, none⟩ = some (.int .u8 t) := by rw [htd]; exact unhide Hc j hj
    rw [← htd] at hstep hr
    obtain ⟨hr0, hr1⟩ := hr
    have e1 := u8_and127 t hr0 hr1
    have e2 := u64_or (u : Int) (t % 128) (by omega) (by omega) (by omega) (by omega)
    have e3 : ((u : Int) / 144115188075855872 != 0) = false := by
      rw [show (u : Int) / 144115188075855872 = 0 by omega]; rfl
    have d1 : (j : Int) < n := by omega
    have d2 : (j : Int) < 10 := by omega
    have HT := hide htd
    have HS := hide hstep
    clear htd hstep
    by_cases hlast : j = L - 1
    · have hlow : t < 128 := by
        rw [unhide HT, hlast, unhide HL]
        exact enc_low v
      have e4 := u8_and128_lo t hr0 hlow
      have HF : Hid ((u : Int) * 128 + t % 128 = v) := by
        have h1 := unhide HS
        rw [show j + 1 = (enc v).length by rw [← unhide HL]; omega, rd_full] at h1
        exact h1.symm
      have hj1 : L ≤ j + 1 := by omega
      clear hlast
      go_wp2
      go_ret3
      exact ⟨ret3 (unhide HF) (by omega), rfl⟩
    · have hhigh : 128 ≤ t := by
        rw [unhide HT]
        exact enc_high v j (by rw [← unhide HL]; omega)
      have e4 := u8_and128_hi t hhigh hr1
      have hx : (t % 128).toNat < 128 := by omega
      go_wp2
      go_roundw
      case rel =>
        go_light
        refine ⟨j + 1, u * 128 + (t % 128).toNat, by omega, by go_num, by go_num, trivial, hide ?_⟩
        have h1 := unhide HS
        omega
      case measure => go_light; simp [intOf]; omega

end Go.Proofs.Qxb6601975aMods
