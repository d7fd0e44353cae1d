import Derived.Test.Qxb6601975aModsRead
namespace Go.Proofs.Qxb6601975aMods
open Go.RowKit

/-- The stream. -/
def encAll (l : List Int) : List Int := l.flatMap fun z => enc z.toNat

theorem encAll_snoc (l : List Int) (z : Int) : encAll (l ++ [z]) = encAll l ++ enc z.toNat := by simp [encAll]
theorem encAll_append (a b : List Int) : encAll (a ++ b) = encAll a ++ encAll b := by simp [encAll]
theorem encAll_cons (z : Int) (b : List Int) : encAll (z :: b) = enc z.toNat ++ encAll b := by simp [encAll]

theorem take_snoc (l : List Int) (k : Nat) (h : k < l.length) : l.take (k + 1) = l.take k ++ [l.getD k 0] := by
  rw [List.take_succ_eq_append_getElem h]
  simp [List.getD, h]

theorem encAll_le (l : List Int) (h : ∀ z ∈ l, 0 ≤ z ∧ z < 18446744073709551616) : (encAll l).length ≤ 10 * l.length := by
  induction l with
  | nil => simp [encAll]
  | cons z r ih =>
    have h1 := enc_ten z.toNat (by have := h z (by simp); omega)
    have h2 := ih (fun y hy => h y (by simp [hy]))
    rw [encAll_cons, List.length_append, List.length_cons]
    omega

theorem split_at (l : List Int) (k : Nat) (h : k < l.length) : l = l.take k ++ (l.getD k 0 :: l.drop (k + 1)) := by
  have h1 := List.take_append_drop k l
  rw [List.drop_eq_getElem_cons h] at h1
  have h2 : l.getD k 0 = l[k] := by simp [List.getD, h]
  rw [h2]
  exact h1.symm

/-- Where value k begins. -/
def pos (l : List Int) (k : Nat) : Nat := (encAll (l.take k)).length

theorem pos_succ (l : List Int) (k : Nat) (h : k < l.length) : pos l (k + 1) = pos l k + (enc (l.getD k 0).toNat).length := by
  unfold pos
  rw [take_snoc l k h, encAll_snoc, List.length_append]

theorem pos_le (l : List Int) (k : Nat) (h : k < l.length) : pos l k + (enc (l.getD k 0).toNat).length ≤ (encAll l).length := by
  have e := congrArg encAll (split_at l k h)
  rw [encAll_append, encAll_cons] at e
  have := congrArg List.length e
  simp only [List.length_append, pos] at this ⊢
  omega

theorem all_at (l : List Int) (k i : Nat) (h : k < l.length) (hi : i < (enc (l.getD k 0).toNat).length) : (encAll l).getD (pos l k + i) 0 = (enc (l.getD k 0).toNat).getD i 0 := by
  have e : encAll l = encAll (l.take k) ++ (enc (l.getD k 0).toNat ++ encAll (l.drop (k + 1))) := by
    conv => lhs; rw [split_at l k h, encAll_append, encAll_cons]
  rw [e, List.getD_eq_getElem?_getD, List.getElem?_append_right (by simp [pos])]
  have e2 : pos l k + i - (encAll (l.take k)).length = i := by simp [pos]
  rw [e2, List.getElem?_append_left hi, ← List.getD_eq_getElem?_getD]

set_option maxHeartbeats 1000000 in
theorem zzbytes10 (p : Option Addr) (n c : Nat) (w : World) (hn : n ≤ 9223372036854775807) :
    Calls Trym.prog 10 #[.slice p n c] w fun e w' => e = .returned (.bool (decide (n ≤ 1048576))) ∧ w' = w := by
  by_cases h : n ≤ 1048576
  · rw [decide_eq_true h]
    have h1 : ¬ (1048576 : Int) < n := by omega
    go_enter Trym.func10, Trym.ntmps10
    go_wp2
    go_ret
    exact ⟨rfl, rfl⟩
  · rw [decide_eq_false h]
    have h1 : (1048576 : Int) < n := by omega
    go_enter Trym.func10, Trym.ntmps10
    go_wp2
    go_ret
    exact ⟨rfl, rfl⟩

set_option maxHeartbeats 1000000 in
theorem stream_zero (p : Option Addr) (c : Nat) (w : World) :
    Calls Trym.prog 4 #[.slice p 0 c] w fun e w' => e = .returned (.bool true) ∧ w' = w := by
  have Hz := hide (zzbytes10 p 0 c w (by omega))
  go_enter Trym.func4, Trym.ntmps4
  go_wp2_with fail
  refine (unhide Hz).mono ?_
  rintro e w0 ⟨rfl, rfl⟩
  go_wp2
  refine wp_loop_rounds 1 ?_
  rw [rounds_succ]
  go_wp2
  refine wp_loop_rounds 1 ?_
  rw [rounds_succ]
  go_wp2
  go_ret
  exact ⟨rfl, rfl⟩

set_option maxHeartbeats 1000000 in
theorem stream_big (p : Option Addr) (n c : Nat) (w : World) (hn : n ≤ 9223372036854775807) (h : 65536 < n) :
    Calls Trym.prog 4 #[.slice p n c] w fun e w' => e = .returned (.bool true) ∧ w' = w := by
  have Hz := hide (zzbytes10 p n c w hn)
  have t1 : (65536 : Int) < n := by omega
  by_cases h2 : n ≤ 1048576
  · rw [decide_eq_true h2] at Hz
    go_enter Trym.func4, Trym.ntmps4
    go_wp2_with fail
    refine (unhide Hz).mono ?_
    rintro e w0 ⟨rfl, rfl⟩
    go_wp2
    go_ret
    exact ⟨rfl, rfl⟩
  · rw [decide_eq_false h2] at Hz
    go_enter Trym.func4, Trym.ntmps4
    go_wp2_with fail
    refine (unhide Hz).mono ?_
    rintro e w0 ⟨rfl, rfl⟩
    go_wp2
    go_ret
    exact ⟨rfl, rfl⟩

set_option maxHeartbeats 2000000 in
theorem stream_some (b o n c : Nat) (zs : List Int) (w : World) (hz : zs.length = n) (h0 : 0 < n) (hn : n ≤ 65536) (hb : b < w.heap.size) (hby : ∀ z ∈ zs, 0 ≤ z ∧ z < 18446744073709551616)
    (hc : ∀ i, i < n → w.cell? ⟨b, o + i, none⟩ = some (.int .u64 (zs.getD i 0))) :
    Calls Trym.prog 4 #[.slice (some ⟨b, o, none⟩) n c] w fun e w' => e = .returned (.bool true) ∧ Below w.heap.size w w' := by
  have Hz := hide (zzbytes10 (some ⟨b, o, none⟩) n c w (by omega))
  rw [decide_eq_true (by omega)] at Hz
  have t1 : ¬ (65536 : Int) < n := by omega
  have Hzl := hide hz
  have Hby := hide hby
  have Hc := hide hc
  have hel : ∀ k, k < n → 0 ≤ zs.getD k 0 ∧ zs.getD k 0 < 18446744073709551616 := by
    intro k hk
    apply hby
    rw [List.getD_eq_getElem?_getD, List.getElem?_eq_getElem (by omega), Option.getD_some]
    exact List.getElem_mem _
  have Hel := hide hel
  clear hz hby hc hel
  go_enter Trym.func4, Trym.ntmps4
  go_wp2_with fail
  refine (unhide Hz).mono ?_
  rintro e w0 ⟨rfl, rfl⟩
  go_wp2
  go_loopw [3, 4] (fun v i wr => ∃ k : Nat, k ≤ n ∧ i = .int .i64 k ∧ wr.ownsRow w0.heap.size 5 1 v (encAll (zs.take k)).length (by8 (encAll (zs.take k))) ∧ Below w0.heap.size w0 wr) (fun _ i _ => n - (intOf i).toNat)
  case atStart => exact ⟨0, Nat.zero_le _, rfl, World.ownsRow_nil _ _ _ _, Below.refl _ _⟩
  case round =>
    obtain ⟨k, hk, rfl, hown, hbel⟩ := hrel
    have hsz := hbel.size
    have HO := hide hown
    clear hown
    by_cases hlt : k < n
    · obtain ⟨z, hzd⟩ : ∃ z, z = zs.getD k 0 := ⟨_, rfl⟩
      have hzb := unhide Hel k hlt
      rw [← hzd] at hzb
      obtain ⟨m, rfl⟩ := Int.eq_ofNat_of_zero_le hzb.1
      have hcell : wr.cell? ⟨b, o + k, none⟩ = some (.int .u64 (m : Int)) := by rw [hzd]; exact (hbel.cell (by exact hb)).trans (unhide Hc k hlt)
      have hlen : (encAll (zs.take k)).length ≤ 1000000 := by
        have h1 := encAll_le (zs.take k) (fun z hz => unhide Hby z (List.mem_of_mem_take hz))
        have h2 : (zs.take k).length ≤ k := List.length_take_le _ _
        omega
      have HV := hide (varint_any w0.heap.size _ _ (encAll (zs.take k)) m wr (by omega) hsz (by omega) (unhide HO))
      have HZ := hide hzd
      clear hzd hzb hlen
      go_wp2_with fail
      refine (unhide HV).mono ?_
      rintro e w2 ⟨v2, rfl, hown2, hb2⟩
      have HO2 := hide hown2
      have hbel2 := hbel.trans hb2
      clear hown2 hb2
      go_wp2
      go_roundw
      case rel =>
        go_light
        refine ⟨k + 1, by omega, by go_num, ?_, hbel2⟩
        have h1 := unhide HO2
        rw [take_snoc zs k (by have := unhide Hzl; omega), encAll_snoc, ← unhide HZ, Int.toNat_natCast]
        exact h1
      case measure => go_light; simp [intOf]; omega
    · obtain rfl : k = n := by omega
      have htk : zs.take k = zs := List.take_of_length_le (by have := unhide Hzl; omega)
      rw [htk] at HO
      clear htk
      obtain ⟨p, c2, hv, g1, g2, g3, g4, g5⟩ := shows_own (unhide HO)
      have hpos0 : 1 ≤ (encAll zs).length := by
        have h1 := pos_le zs 0 (by have := unhide Hzl; omega)
        have h2 := enc_pos (zs.getD 0 0).toNat
        omega
      have hposn : (encAll zs).length ≤ 1000000 := by
        have h1 := encAll_le zs (unhide Hby)
        have h2 := unhide Hzl
        omega
      rcases g4 with g4 | ⟨b1, o1, rfl, h3, h4⟩
      · omega
      · subst hv
        obtain ⟨N, hN⟩ : ∃ N, N = (encAll zs).length := ⟨_, rfl⟩
        rw [← hN] at g1 hpos0 hposn h4 ⊢
        have HN := hide hN
        have H4 := hide h4
        have g2' : c2 ≤ 9223372036854775807 := by unfold maxLen at g2; omega
        clear hN h4 g3 g5 HO
        go_wp2
        go_loopw [5, 6] (fun s i wx => ∃ j q : Nat, j ≤ k ∧ i = .int .i64 j ∧ s = .int .i64 q ∧ wx = wr ∧ Hid (q = pos zs j)) (fun _ i _ => k - (intOf i).toNat)
        case atStart => exact ⟨0, 0, Nat.zero_le _, rfl, rfl, rfl, hide (by simp [pos, encAll])⟩
        case round =>
          obtain ⟨j, q, hj, rfl, rfl, rfl, HQ⟩ := hrel
          by_cases hlt2 : j < k
          · obtain ⟨z, hzd⟩ : ∃ z, z = zs.getD j 0 := ⟨_, rfl⟩
            have hzb := unhide Hel j hlt2
            rw [← hzd] at hzb
            obtain ⟨m, rfl⟩ := Int.eq_ofNat_of_zero_le hzb.1
            have hcell := (hbel.cell (p := ⟨b, o + j, none⟩) (by exact hb)).trans (unhide Hc j hlt2)
            rw [← hzd] at hcell
            have hjl : j < zs.length := by have := unhide Hzl; omega
            have hle := pos_le zs j hjl
            rw [← hzd, Int.toNat_natCast, ← unhide HQ, ← unhide HN] at hle
            have hp := enc_pos m
            have HR := hide (read_any b1 (o1 + q) (N - q) (c2 - q) m _ (by omega) (by omega) (by omega) (fun i hi => by
              have h1 := unhide H4 (q + i) (by omega)
              rw [← Nat.add_assoc] at h1
              rw [h1, unhide HQ, all_at zs j i hjl (by rw [← hzd, Int.toNat_natCast]; exact hi), ← hzd, Int.toNat_natCast]))
            have hps := pos_succ zs j hjl
            rw [← hzd, Int.toNat_natCast, ← unhide HQ] at hps
            obtain ⟨L, hL⟩ : ∃ L, L = (enc m).length := ⟨_, rfl⟩
            rw [← hL] at HR hps hp hle
            have HPS := hide hps
            have hne : ((m : Int) != (m : Int)) = false := by simp
            clear hzd hzb hps hL hjl
            go_wp2_with fail
            refine (unhide HR).mono ?_
            rintro e w3 ⟨rfl, rfl⟩
            go_wp2
            go_roundw
            case rel =>
              go_light
              exact ⟨j + 1, q + L, by omega, by go_num, by go_num, trivial, hide (unhide HPS).symm⟩
            case measure => go_light; simp [intOf]; omega
          · obtain rfl : j = k := by omega
            have hqN : q = N := by
              rw [unhide HQ, unhide HN]
              unfold pos
              rw [List.take_of_length_le (by have := unhide Hzl; omega)]
            have heq : ((q : Int) == (N : Int)) = true := beq_iff_eq.2 (by omega)
            clear hqN
            go_wp2
            go_ret
            exact ⟨rfl, hbel⟩

/-- The law, whatever slice. -/
theorem stream_any (p : Option Addr) (n c : Nat) (zs : List Int) (w : World) (hz : zs.length = n) (hn : n ≤ 9223372036854775807) (hby : ∀ z ∈ zs, 0 ≤ z ∧ z < 18446744073709551616)
    (hc : n = 0 ∨ ∃ b o, p = some ⟨b, o, none⟩ ∧ b < w.heap.size ∧ ∀ i, i < n → w.cell? ⟨b, o + i, none⟩ = some (.int .u64 (zs.getD i 0))) :
    Calls Trym.prog 4 #[.slice p n c] w fun e w' => e = .returned (.bool true) ∧ Below w.heap.size w w' := by
  by_cases h : 65536 < n
  · refine (stream_big p n c w hn h).mono ?_
    rintro e w' ⟨rfl, rfl⟩
    exact ⟨rfl, Below.refl _ _⟩
  · rcases hc with rfl | ⟨b, o, rfl, hb, hc⟩
    · refine (stream_zero p c w).mono ?_
      rintro e w' ⟨rfl, rfl⟩
      exact ⟨rfl, Below.refl _ _⟩
    · by_cases h0 : 0 < n
      · exact stream_some b o n c zs w hz h0 (by omega) hb hby hc
      · obtain rfl : n = 0 := by omega
        refine (stream_zero _ c w).mono ?_
        rintro e w' ⟨rfl, rfl⟩
        exact ⟨rfl, Below.refl _ _⟩

end Go.Proofs.Qxb6601975aMods
