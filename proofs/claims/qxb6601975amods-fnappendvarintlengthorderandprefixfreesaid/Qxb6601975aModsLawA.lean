import Derived.Test.Qxb6601975aModsVar
import Derived.Deep.QuietTactic
import Derived.BigQuiet
namespace Go.Proofs.Qxb6601975aMods
open Go.RowKit

theorem below_draws (B : Nat) (w : World) (q : Nat) : Below B w (w.drewN q) := ⟨rfl, rfl, rfl, Nat.le_refl _, fun _ _ => rfl⟩
theorem drewN_twice (w : World) (a b : Nat) : (w.drewN a).drewN b = w.drewN (a + b) := by
  simp [World.drewN, Nat.add_assoc]
theorem ret_bool {a b : Bool} (h : a = b) : Ending.returned (.bool b) = .returned (.bool a) := by rw [h]

/-- AppendVarint onto nil. -/
theorem varint_nil (v : Nat) (w : World) (hv : v < 18446744073709551616) :
    Calls Trym.prog 8 #[.slice none 0 0, .int .u64 v] w fun e w' => ∃ b o c, e = .returned (.slice (some ⟨b, o, none⟩) (enc v).length c) ∧ (enc v).length ≤ c ∧ c ≤ maxLen ∧ b < w'.heap.size ∧
      (∀ i, i < (enc v).length → w'.cell? ⟨b, o + i, none⟩ = some (.int .u8 ((enc v).getD i 0))) ∧ Below w.heap.size w w' := by
  refine (varint_any w.heap.size (.slice none 0 0) 0 [] v w hv (Nat.le_refl _) (by omega) (World.ownsRow_nil _ _ _ _)).mono ?_
  rintro e w' ⟨v', rfl, h1, h2⟩
  rw [List.nil_append] at h1
  obtain ⟨p, c, rfl, g1, g2, g3, g4, g5⟩ := shows_own h1
  have := enc_pos v
  rcases g4 with g4 | ⟨b, o, rfl, h3, h4⟩
  · omega
  · exact ⟨b, o, c, rfl, g1, g2, h3, h4, h2⟩

set_option maxHeartbeats 1000000 in
theorem closed_any (p : Option Addr) (c v : Nat) (w : World) (hv : v < 18446744073709551616) :
    Calls Trym.prog 12 #[.slice p (enc v).length c, .int .u64 v] w fun e w' => e = .returned (.bool true) ∧ w' = w := by
  have h1 := enc_one v hv
  have h2 := enc_full v hv
  have h3 := enc_pos v
  have h4 := enc_ten v hv
  generalize (enc v).length = L at *
  have t1 : ¬ (L : Int) < 1 := by omega
  have t2 : ¬ (10 : Int) < L := by omega
  by_cases a : v < 128
  · obtain rfl : L = 1 := h1.2 a
    have a' : (v : Int) < 128 := by omega
    have b : ((v : Int) / 9223372036854775808 != 0) = false := by
      rw [show (v : Int) / 9223372036854775808 = 0 by omega]; rfl
    clear h1 h2 h3 h4 t1 t2
    go_enter Trym.func12, Trym.ntmps12
    go_wp2
    go_ret
    exact ⟨rfl, rfl⟩
  · have a' : ¬ (v : Int) < 128 := by omega
    by_cases b : 9223372036854775808 ≤ v
    · obtain rfl : L = 10 := h2.2 b
      have b' : ((v : Int) / 9223372036854775808 != 0) = true := by
        rw [show (v : Int) / 9223372036854775808 = 1 by omega]; rfl
      clear h1 h2 h3 h4 t1 t2
      go_enter Trym.func12, Trym.ntmps12
      go_wp2
      go_ret
      exact ⟨rfl, rfl⟩
    · have c1 : ((L : Int) == 1) = false := beq_eq_false_iff_ne.2 (by omega)
      have c2 : ((L : Int) == 10) = false := beq_eq_false_iff_ne.2 (by omega)
      have b' : ((v : Int) / 9223372036854775808 != 0) = false := by
        rw [show (v : Int) / 9223372036854775808 = 0 by omega]; rfl
      clear h1 h2 h3 h4
      go_enter Trym.func12, Trym.ntmps12
      go_wp2
      go_ret
      exact ⟨rfl, rfl⟩

set_option maxHeartbeats 2000000 in
theorem law_lt (u v : Nat) (w : World) (hu : u < 18446744073709551616) (hv : v < 18446744073709551616) (huv : u < v) :
    Calls Trym.prog 5 #[.int .u64 u, .int .u64 v] w fun e w' => e = .returned (.bool true) ∧ Below w.heap.size w w' := by
  have HU := hide (varint_nil u w hu)
  have HV := fun W => hide (varint_nil v W hv)
  have HV' := hide HV
  have HCu := hide (fun p c W => closed_any p c u W hu)
  have HCv := hide (fun p c W => closed_any p c v W hv)
  have t0 := enc_mono u v hv (by omega)
  have t1 : (u : Int) ≤ v := by omega
  have t2 : ¬ (v : Int) ≤ u := by omega
  have t3 : ((u : Int) == v) = false := beq_eq_false_iff_ne.2 (by omega)
  have t4 : ¬ ((enc v).length : Int) < (enc u).length := by omega
  have t5 : ¬ (enc v).length < (enc u).length := by omega
  have hpa := enc_pos u
  have hpb := enc_pos v
  have hta := enc_ten u hu
  have htb := enc_ten v hv
  generalize hea : enc u = ea at *
  generalize heb : enc v = eb at *
  have HEA := hide hea
  have HEB := hide heb
  clear hea heb HV
  go_enter Trym.func5, Trym.ntmps5
  go_wp2_with fail
  refine (unhide HU).mono ?_
  rintro e w1 ⟨b1, o1, c1, rfl, p1, p2, p3, p4, p5⟩
  have P4 := hide p4
  clear p4
  go_wp2_with fail
  refine (unhide (unhide HV' w1)).mono ?_
  rintro e w2 ⟨b2, o2, c2, rfl, q1, q2, q3, q4, q5⟩
  have P4' : Hid (∀ i, i < ea.length → w2.cell? ⟨b1, o1 + i, none⟩ = some (.int .u8 (ea.getD i 0))) := fun i hi => (q5.cell (by exact p3)).trans (unhide P4 i hi)
  have Q4 := hide q4
  clear q4 P4
  go_wp2_with fail
  refine (unhide HCu _ _ _).mono ?_
  rintro e w3 ⟨rfl, rfl⟩
  go_wp2_with fail
  refine (unhide HCv _ _ _).mono ?_
  rintro e w4 ⟨rfl, rfl⟩
  go_wp2
  go_loopw [8, 9] (fun s i wr => ∃ (k q : Nat) (sp : Bool), k ≤ ea.length ∧ i = .int .i64 k ∧ s = .bool sp ∧ wr = w4.drewN q ∧ Hid (sp = true ↔ ∀ j, j < k → ea.getD j 0 = eb.getD j 0)) (fun _ i _ => ea.length - (intOf i).toNat)
  case atStart => exact ⟨0, 0, true, Nat.zero_le _, rfl, rfl, rfl, hide ⟨fun _ j hj => by omega, fun _ => rfl⟩⟩
  case round =>
    obtain ⟨k, q, sp, hk, rfl, rfl, rfl, HJ⟩ := hrel
    by_cases hlt : k < ea.length
    · obtain ⟨x, hx⟩ : ∃ x, x = ea.getD k 0 := ⟨_, rfl⟩
      obtain ⟨y, hy⟩ : ∃ y, y = eb.getD k 0 := ⟨_, rfl⟩
      have g1 : w4.cell? ⟨b1, o1 + k, none⟩ = some (.int .u8 x) := by rw [hx]; exact unhide P4' k (by omega)
      have g2 : w4.cell? ⟨b2, o2 + k, none⟩ = some (.int .u8 y) := by rw [hy]; exact unhide Q4 k (by omega)
      have HX := hide hx
      have HY := hide hy
      clear hx hy
      have hlt' : (k : Int) < (ea.length : Nat) := by omega
      have hla : (k : Int) < (ea.length : Nat) := by omega
      have hlb : (k : Int) < (eb.length : Nat) := by omega
      by_cases he : x = y
      · have he' : (x != y) = false := by simp [he]
        go_wp2
        go_quiet (fail)
        go_wp2
        go_roundw
        case rel =>
          go_light
          refine ⟨k + 1, _, sp, by omega, by go_num, rfl, rfl, hide ((unhide HJ).trans ⟨fun h j hj => ?_, fun h j hj => h j (by omega)⟩)⟩
          rcases Nat.lt_or_ge j k with h' | h'
          · exact h j h'
          · obtain rfl : j = k := by omega
            rw [← unhide HX, ← unhide HY]
            exact he
        case measure => go_light; simp [intOf]; omega
      · have he' : (x != y) = true := by rw [bne_iff_ne]; exact he
        go_wp2
        go_quiet (fail)
        go_wp2
        go_roundw
        case rel =>
          go_light
          refine ⟨k + 1, _, false, by omega, by go_num, rfl, rfl, hide ⟨fun h => (by cases h), fun h => absurd (h k (by omega)) ?_⟩⟩
          rw [← unhide HX, ← unhide HY]
          exact he
        case measure => go_light; simp [intOf]; omega
    · obtain rfl : k = ea.length := by omega
      have hsp : sp = false := by
        rw [Bool.eq_false_iff]
        intro h
        have h2 := (unhide HJ).1 h
        refine enc_differ u v hu hv (by omega) ?_
        rw [unhide HEA, unhide HEB]
        exact fun j hj => h2 j (by omega)
      subst hsp
      go_wp2
      go_ret
      exact ⟨rfl, (p5.trans (q5.mono p5.size)).trans (below_draws _ _ _)⟩


set_option maxHeartbeats 2000000 in
theorem law_gt1 (u v : Nat) (w : World) (hu : u < 18446744073709551616) (hv : v < 18446744073709551616) (huv : v < u) (hlt0 : (enc v).length < (enc u).length) :
    Calls Trym.prog 5 #[.int .u64 u, .int .u64 v] w fun e w' => e = .returned (.bool true) ∧ Below w.heap.size w w' := by
  have HU := hide (varint_nil u w hu)
  have HV := fun W => hide (varint_nil v W hv)
  have HV' := hide HV
  have HCu := hide (fun p c W => closed_any p c u W hu)
  have HCv := hide (fun p c W => closed_any p c v W hv)
  have t0 := enc_mono v u hu (by omega)
  have t1 : ¬ (u : Int) ≤ v := by omega
  have t2 : (v : Int) ≤ u := by omega
  have t3 : ((u : Int) == v) = false := beq_eq_false_iff_ne.2 (by omega)
  have t4 : ¬ ((enc u).length : Int) < (enc v).length := by omega
  have t6 : ((enc v).length : Int) < (enc u).length := by omega
  have hpa := enc_pos u
  have hpb := enc_pos v
  have hta := enc_ten u hu
  have htb := enc_ten v hv
  generalize hea : enc u = ea at *
  generalize heb : enc v = eb at *
  have HEA := hide hea
  have HEB := hide heb
  clear hea heb HV
  go_enter Trym.func5, Trym.ntmps5
  go_wp2_with fail
  refine (unhide HU).mono ?_
  rintro e w1 ⟨b1, o1, c1, rfl, p1, p2, p3, p4, p5⟩
  have P4 := hide p4
  clear p4
  go_wp2_with fail
  refine (unhide (unhide HV' w1)).mono ?_
  rintro e w2 ⟨b2, o2, c2, rfl, q1, q2, q3, q4, q5⟩
  have P4' : Hid (∀ i, i < ea.length → w2.cell? ⟨b1, o1 + i, none⟩ = some (.int .u8 (ea.getD i 0))) := fun i hi => (q5.cell (by exact p3)).trans (unhide P4 i hi)
  have Q4 := hide q4
  clear q4 P4
  go_wp2_with fail
  refine (unhide HCu _ _ _).mono ?_
  rintro e w3 ⟨rfl, rfl⟩
  go_wp2_with fail
  refine (unhide HCv _ _ _).mono ?_
  rintro e w4 ⟨rfl, rfl⟩
  go_wp2
  go_loopw [8, 9] (fun s i wr => ∃ (k q : Nat) (sp : Bool), k ≤ eb.length ∧ i = .int .i64 k ∧ s = .bool sp ∧ wr = w4.drewN q ∧ Hid (sp = true ↔ ∀ j, j < k → ea.getD j 0 = eb.getD j 0)) (fun _ i _ => eb.length - (intOf i).toNat)
  case atStart => exact ⟨0, 0, true, Nat.zero_le _, rfl, rfl, rfl, hide ⟨fun _ j hj => by omega, fun _ => rfl⟩⟩
  case round =>
    obtain ⟨k, q, sp, hk, rfl, rfl, rfl, HJ⟩ := hrel
    by_cases hlt : k < eb.length
    · obtain ⟨x, hx⟩ : ∃ x, x = ea.getD k 0 := ⟨_, rfl⟩
      obtain ⟨y, hy⟩ : ∃ y, y = eb.getD k 0 := ⟨_, rfl⟩
      have g1 : w4.cell? ⟨b1, o1 + k, none⟩ = some (.int .u8 x) := by rw [hx]; exact unhide P4' k (by omega)
      have g2 : w4.cell? ⟨b2, o2 + k, none⟩ = some (.int .u8 y) := by rw [hy]; exact unhide Q4 k (by omega)
      have HX := hide hx
      have HY := hide hy
      clear hx hy
      have hlt' : (k : Int) < (eb.length : Nat) := by omega
      have hla : (k : Int) < (ea.length : Nat) := by omega
      have hlb : (k : Int) < (eb.length : Nat) := by omega
      by_cases he : x = y
      · have he' : (x != y) = false := by simp [he]
        go_wp2
        go_quiet (fail)
        go_wp2
        go_roundw
        case rel =>
          go_light
          refine ⟨k + 1, _, sp, by omega, by go_num, rfl, rfl, hide ((unhide HJ).trans ⟨fun h j hj => ?_, fun h j hj => h j (by omega)⟩)⟩
          rcases Nat.lt_or_ge j k with h' | h'
          · exact h j h'
          · obtain rfl : j = k := by omega
            rw [← unhide HX, ← unhide HY]
            exact he
        case measure => go_light; simp [intOf]; omega
      · have he' : (x != y) = true := by rw [bne_iff_ne]; exact he
        go_wp2
        go_quiet (fail)
        go_wp2
        go_roundw
        case rel =>
          go_light
          refine ⟨k + 1, _, false, by omega, by go_num, rfl, rfl, hide ⟨fun h => (by cases h), fun h => absurd (h k (by omega)) ?_⟩⟩
          rw [← unhide HX, ← unhide HY]
          exact he
        case measure => go_light; simp [intOf]; omega
    · obtain rfl : k = eb.length := by omega
      have hsp : sp = false := by
        rw [Bool.eq_false_iff]
        intro h
        have h2 := (unhide HJ).1 h
        refine enc_differ u v hu hv (by omega) ?_
        rw [unhide HEA, unhide HEB]
        exact fun j hj => h2 j (by omega)
      subst hsp
      go_wp2
      go_ret
      exact ⟨rfl, (p5.trans (q5.mono p5.size)).trans (below_draws _ _ _)⟩


set_option maxHeartbeats 2000000 in
theorem law_gt2 (u v : Nat) (w : World) (hu : u < 18446744073709551616) (hv : v < 18446744073709551616) (huv : v < u) (hlt0 : ¬ (enc v).length < (enc u).length) :
    Calls Trym.prog 5 #[.int .u64 u, .int .u64 v] w fun e w' => e = .returned (.bool true) ∧ Below w.heap.size w w' := by
  have HU := hide (varint_nil u w hu)
  have HV := fun W => hide (varint_nil v W hv)
  have HV' := hide HV
  have HCu := hide (fun p c W => closed_any p c u W hu)
  have HCv := hide (fun p c W => closed_any p c v W hv)
  have t0 := enc_mono v u hu (by omega)
  have t1 : ¬ (u : Int) ≤ v := by omega
  have t2 : (v : Int) ≤ u := by omega
  have t3 : ((u : Int) == v) = false := beq_eq_false_iff_ne.2 (by omega)
  have t4 : ¬ ((enc u).length : Int) < (enc v).length := by omega
  have t6 : ¬ ((enc v).length : Int) < (enc u).length := by omega
  have t7 : (enc v).length = (enc u).length := by omega
  have T7 := hide t7
  clear t7
  have hpa := enc_pos u
  have hpb := enc_pos v
  have hta := enc_ten u hu
  have htb := enc_ten v hv
  generalize hea : enc u = ea at *
  generalize heb : enc v = eb at *
  have HEA := hide hea
  have HEB := hide heb
  clear hea heb HV
  go_enter Trym.func5, Trym.ntmps5
  go_wp2_with fail
  refine (unhide HU).mono ?_
  rintro e w1 ⟨b1, o1, c1, rfl, p1, p2, p3, p4, p5⟩
  have P4 := hide p4
  clear p4
  go_wp2_with fail
  refine (unhide (unhide HV' w1)).mono ?_
  rintro e w2 ⟨b2, o2, c2, rfl, q1, q2, q3, q4, q5⟩
  have P4' : Hid (∀ i, i < ea.length → w2.cell? ⟨b1, o1 + i, none⟩ = some (.int .u8 (ea.getD i 0))) := fun i hi => (q5.cell (by exact p3)).trans (unhide P4 i hi)
  have Q4 := hide q4
  clear q4 P4
  go_wp2_with fail
  refine (unhide HCu _ _ _).mono ?_
  rintro e w3 ⟨rfl, rfl⟩
  go_wp2_with fail
  refine (unhide HCv _ _ _).mono ?_
  rintro e w4 ⟨rfl, rfl⟩
  go_wp2
  go_loopw [8, 9] (fun s i wr => ∃ (k q : Nat) (sp : Bool), k ≤ ea.length ∧ i = .int .i64 k ∧ s = .bool sp ∧ wr = w4.drewN q ∧ Hid (sp = true ↔ ∀ j, j < k → ea.getD j 0 = eb.getD j 0)) (fun _ i _ => ea.length - (intOf i).toNat)
  case atStart => exact ⟨0, 0, true, Nat.zero_le _, rfl, rfl, rfl, hide ⟨fun _ j hj => by omega, fun _ => rfl⟩⟩
  case round =>
    obtain ⟨k, q, sp, hk, rfl, rfl, rfl, HJ⟩ := hrel
    by_cases hlt : k < ea.length
    · obtain ⟨x, hx⟩ : ∃ x, x = ea.getD k 0 := ⟨_, rfl⟩
      obtain ⟨y, hy⟩ : ∃ y, y = eb.getD k 0 := ⟨_, rfl⟩
      have g1 : w4.cell? ⟨b1, o1 + k, none⟩ = some (.int .u8 x) := by rw [hx]; exact unhide P4' k (by omega)
      have g2 : w4.cell? ⟨b2, o2 + k, none⟩ = some (.int .u8 y) := by rw [hy]; exact unhide Q4 k (by omega)
      have HX := hide hx
      have HY := hide hy
      clear hx hy
      have hlt' : (k : Int) < (ea.length : Nat) := by omega
      have hla : (k : Int) < (ea.length : Nat) := by omega
      have hlb : (k : Int) < (eb.length : Nat) := by omega
      by_cases he : x = y
      · have he' : (x != y) = false := by simp [he]
        go_wp2
        go_quiet (fail)
        go_wp2
        go_roundw
        case rel =>
          go_light
          refine ⟨k + 1, _, sp, by omega, by go_num, rfl, rfl, hide ((unhide HJ).trans ⟨fun h j hj => ?_, fun h j hj => h j (by omega)⟩)⟩
          rcases Nat.lt_or_ge j k with h' | h'
          · exact h j h'
          · obtain rfl : j = k := by omega
            rw [← unhide HX, ← unhide HY]
            exact he
        case measure => go_light; simp [intOf]; omega
      · have he' : (x != y) = true := by rw [bne_iff_ne]; exact he
        go_wp2
        go_quiet (fail)
        go_wp2
        go_roundw
        case rel =>
          go_light
          refine ⟨k + 1, _, false, by omega, by go_num, rfl, rfl, hide ⟨fun h => (by cases h), fun h => absurd (h k (by omega)) ?_⟩⟩
          rw [← unhide HX, ← unhide HY]
          exact he
        case measure => go_light; simp [intOf]; omega
    · obtain rfl : k = ea.length := by omega
      have hsp : sp = false := by
        rw [Bool.eq_false_iff]
        intro h
        have h2 := (unhide HJ).1 h
        refine enc_differ u v hu hv (by omega) ?_
        rw [unhide HEA, unhide HEB]
        exact fun j hj => h2 j (by omega)
      subst hsp
      go_wp2
      go_ret
      exact ⟨rfl, (p5.trans (q5.mono p5.size)).trans (below_draws _ _ _)⟩


set_option maxHeartbeats 2000000 in
theorem law_eq (u v : Nat) (w : World) (hu : u < 18446744073709551616) (hv : v < 18446744073709551616) (huv : u = v) :
    Calls Trym.prog 5 #[.int .u64 u, .int .u64 v] w fun e w' => e = .returned (.bool true) ∧ Below w.heap.size w w' := by
  have HU := hide (varint_nil u w hu)
  have HV := fun W => hide (varint_nil v W hv)
  have HV' := hide HV
  have HCu := hide (fun p c W => closed_any p c u W hu)
  have HCv := hide (fun p c W => closed_any p c v W hv)
  have HEQ : Hid (enc u = enc v) := by rw [huv]; rfl
  have t0 : (enc u).length ≤ (enc v).length := by rw [huv]; exact Nat.le_refl _
  have t0' : (enc v).length ≤ (enc u).length := by rw [huv]; exact Nat.le_refl _
  have t1 : (u : Int) ≤ v := by omega
  have t2 : (v : Int) ≤ u := by omega
  have t3 : ((u : Int) == v) = true := beq_iff_eq.2 (by omega)
  have t4 : ¬ ((enc v).length : Int) < (enc u).length := by omega
  have t4' : ¬ ((enc u).length : Int) < (enc v).length := by omega
  have t5 : ¬ (enc v).length < (enc u).length := by omega
  have t8 : (((enc u).length : Int) == ((enc v).length : Int)) = true := beq_iff_eq.2 (by omega)
  clear huv
  have hpa := enc_pos u
  have hpb := enc_pos v
  have hta := enc_ten u hu
  have htb := enc_ten v hv
  generalize hea : enc u = ea at *
  generalize heb : enc v = eb at *
  have HEA := hide hea
  have HEB := hide heb
  clear hea heb HV
  go_enter Trym.func5, Trym.ntmps5
  go_wp2_with fail
  refine (unhide HU).mono ?_
  rintro e w1 ⟨b1, o1, c1, rfl, p1, p2, p3, p4, p5⟩
  have P4 := hide p4
  clear p4
  go_wp2_with fail
  refine (unhide (unhide HV' w1)).mono ?_
  rintro e w2 ⟨b2, o2, c2, rfl, q1, q2, q3, q4, q5⟩
  have P4' : Hid (∀ i, i < ea.length → w2.cell? ⟨b1, o1 + i, none⟩ = some (.int .u8 (ea.getD i 0))) := fun i hi => (q5.cell (by exact p3)).trans (unhide P4 i hi)
  have Q4 := hide q4
  clear q4 P4
  go_wp2_with fail
  refine (unhide HCu _ _ _).mono ?_
  rintro e w3 ⟨rfl, rfl⟩
  go_wp2_with fail
  refine (unhide HCv _ _ _).mono ?_
  rintro e w4 ⟨rfl, rfl⟩
  go_wp2
  go_loopw [8, 9] (fun s i wr => ∃ (k q : Nat) (sp : Bool), k ≤ ea.length ∧ i = .int .i64 k ∧ s = .bool sp ∧ wr = w4.drewN q ∧ Hid (sp = true ↔ ∀ j, j < k → ea.getD j 0 = eb.getD j 0)) (fun _ i _ => ea.length - (intOf i).toNat)
  case atStart => exact ⟨0, 0, true, Nat.zero_le _, rfl, rfl, rfl, hide ⟨fun _ j hj => by omega, fun _ => rfl⟩⟩
  case round =>
    obtain ⟨k, q, sp, hk, rfl, rfl, rfl, HJ⟩ := hrel
    by_cases hlt : k < ea.length
    · obtain ⟨x, hx⟩ : ∃ x, x = ea.getD k 0 := ⟨_, rfl⟩
      obtain ⟨y, hy⟩ : ∃ y, y = eb.getD k 0 := ⟨_, rfl⟩
      have g1 : w4.cell? ⟨b1, o1 + k, none⟩ = some (.int .u8 x) := by rw [hx]; exact unhide P4' k (by omega)
      have g2 : w4.cell? ⟨b2, o2 + k, none⟩ = some (.int .u8 y) := by rw [hy]; exact unhide Q4 k (by omega)
      have HX := hide hx
      have HY := hide hy
      clear hx hy
      have hlt' : (k : Int) < (ea.length : Nat) := by omega
      have hla : (k : Int) < (ea.length : Nat) := by omega
      have hlb : (k : Int) < (eb.length : Nat) := by omega
      by_cases he : x = y
      · have he' : (x != y) = false := by simp [he]
        go_wp2
        go_quiet (fail)
        go_wp2
        go_roundw
        case rel =>
          go_light
          refine ⟨k + 1, _, sp, by omega, by go_num, rfl, rfl, hide ((unhide HJ).trans ⟨fun h j hj => ?_, fun h j hj => h j (by omega)⟩)⟩
          rcases Nat.lt_or_ge j k with h' | h'
          · exact h j h'
          · obtain rfl : j = k := by omega
            rw [← unhide HX, ← unhide HY]
            exact he
        case measure => go_light; simp [intOf]; omega
      · have he' : (x != y) = true := by rw [bne_iff_ne]; exact he
        go_wp2
        go_quiet (fail)
        go_wp2
        go_roundw
        case rel =>
          go_light
          refine ⟨k + 1, _, false, by omega, by go_num, rfl, rfl, hide ⟨fun h => (by cases h), fun h => absurd (h k (by omega)) ?_⟩⟩
          rw [← unhide HX, ← unhide HY]
          exact he
        case measure => go_light; simp [intOf]; omega
    · obtain rfl : k = ea.length := by omega
      have hsp : sp = true := (unhide HJ).2 (fun j hj => by rw [unhide HEQ])
      subst hsp
      go_wp2
      go_ret
      exact ⟨by simp, (p5.trans (q5.mono p5.size)).trans (below_draws _ _ _)⟩


/-- The law, for all u and v. -/
theorem law_any (u v : Nat) (w : World) (hu : u < 18446744073709551616) (hv : v < 18446744073709551616) :
    Calls Trym.prog 5 #[.int .u64 u, .int .u64 v] w fun e w' => e = .returned (.bool true) ∧ Below w.heap.size w w' := by
  rcases Nat.lt_trichotomy u v with h | h | h
  · exact law_lt u v w hu hv h
  · exact law_eq u v w hu hv h
  · by_cases h2 : (enc v).length < (enc u).length
    · exact law_gt1 u v w hu hv h h2
    · exact law_gt2 u v w hu hv h h2

end Go.Proofs.Qxb6601975aMods
