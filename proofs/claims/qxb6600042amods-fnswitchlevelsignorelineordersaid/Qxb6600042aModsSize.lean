import Derived.Test.Qxb6600042aModsBase
namespace Go.Proofs.Qxb6600042aMods
open Go.RowKit

/-- The slice (p, n) shows the strings S. -/
def ShowsS (w : World) (p : Option Addr) (n : Nat) (S : Nat → ByteArray) : Prop :=
  n = 0 ∨ ∃ b o, p = some ⟨b, o, none⟩ ∧ b < w.heap.size ∧ ∀ i, i < n → w.cell? ⟨b, o + i, none⟩ = some (.string (S i))
/-- The slice (p, n) shows the slices A, L, C. -/
def ShowsR (w : World) (p : Option Addr) (n : Nat) (A : Nat → Option Addr) (L C : Nat → Nat) : Prop :=
  n = 0 ∨ ∃ b o, p = some ⟨b, o, none⟩ ∧ b < w.heap.size ∧ ∀ i, i < n → w.cell? ⟨b, o + i, none⟩ = some (.slice (A i) (L i) (C i))

theorem ShowsS.below {w w' : World} {p : Option Addr} {n B : Nat} {S : Nat → ByteArray} (h : ShowsS w p n S) (hb : Below B w w') (hB : w.heap.size ≤ B) : ShowsS w' p n S := by
  rcases h with h | ⟨b, o, h1, h2, h3⟩
  · exact .inl h
  · exact .inr ⟨b, o, h1, Nat.lt_of_lt_of_le h2 hb.size, fun i hi => (hb.cell (by exact Nat.lt_of_lt_of_le h2 hB)).trans (h3 i hi)⟩
theorem ShowsR.below {w w' : World} {p : Option Addr} {n B : Nat} {A : Nat → Option Addr} {L C : Nat → Nat} (h : ShowsR w p n A L C) (hb : Below B w w') (hB : w.heap.size ≤ B) : ShowsR w' p n A L C := by
  rcases h with h | ⟨b, o, h1, h2, h3⟩
  · exact .inl h
  · exact .inr ⟨b, o, h1, Nat.lt_of_lt_of_le h2 hb.size, fun i hi => (hb.cell (by exact Nat.lt_of_lt_of_le h2 hB)).trans (h3 i hi)⟩

/-- A truth value; where it is false, P. -/
def Big (e : Ending) (P : Prop) : Prop := ∃ b, e = .returned (.bool b) ∧ (b = false → P)

set_option maxHeartbeats 2000000 in
/-- zzBytes: it answers, and writes nothing. -/
theorem zz12 (p q : Option Addr) (n c m d : Nat) (S : Nat → ByteArray) (A : Nat → Option Addr) (L C : Nat → Nat) (T : Nat → Nat → ByteArray) (w : World) (hn : n ≤ 9223372036854775807) (hm : m ≤ 9223372036854775807)
    (hs : ShowsS w p n S) (hr : ShowsR w q m A L C) (ht : ∀ i, i < m → ShowsS w (A i) (L i) (T i)) (hS : ∀ i, i < n → (S i).size ≤ 9223372036854775807) (hL : ∀ i, i < m → L i ≤ 9223372036854775807) (hT : ∀ i, i < m → ∀ j, j < L i → (T i j).size ≤ 9223372036854775807) :
    Calls Trym.prog 12 #[.slice p n c, .slice q m d] w fun e w' => Big e True ∧ w' = w := by
  have HS := hide hs
  have HR := hide hr
  have HT := hide ht
  have HSS := hide hS
  have HSL := hide hL
  have HST := hide hT
  clear hs hr ht hS hL hT
  by_cases t1 : 1048576 < n
  · have t1' : (1048576 : Int) < n := by omega
    go_enter Trym.func12, Trym.ntmps12
    go_wp2
    go_ret
    exact ⟨⟨_, rfl, fun _ => trivial⟩, rfl⟩
  have t1' : ¬ (1048576 : Int) < n := by omega
  go_enter Trym.func12, Trym.ntmps12
  go_wp2
  go_loopw [5, 6] (fun z s wr => ∃ i t : Nat, i ≤ n ∧ t ≤ 1048576 ∧ z = .int .i64 t ∧ s = .int .i64 i ∧ w = wr) (fun _ s _ => n - (intOf s).toNat)
  case atStart => exact ⟨0, n, Nat.zero_le _, by omega, by go_num, rfl, rfl⟩
  case round =>
    obtain ⟨i, t, hi, htt, rfl, rfl, rfl⟩ := hrel
    by_cases hlt : i < n
    · rcases unhide HS with h | ⟨b, o, rfl, hb, hc⟩
      · omega
      · obtain ⟨s, es⟩ : ∃ s, s = S i := ⟨_, rfl⟩
        have hci := hc i hlt
        have hsz := unhide HSS i hlt
        rw [← es] at hci hsz
        obtain ⟨z, ez⟩ : ∃ z, z = s.size := ⟨_, rfl⟩
        clear es hc hb
        have d1 : (i : Int) < n := by omega
        by_cases u1 : 1048576 < s.size
        · have u1' : (1048576 : Int) < s.size := by omega
          go_wp2
          go_ret
          exact ⟨⟨_, rfl, fun _ => trivial⟩, rfl⟩
        · have u1' : ¬ (1048576 : Int) < s.size := by omega
          by_cases u2 : 1048576 < t + s.size
          · have u2' : (1048576 : Int) < (t : Int) + s.size := by omega
            go_wp2
            go_ret
            exact ⟨⟨_, rfl, fun _ => trivial⟩, rfl⟩
          · have u2' : ¬ (1048576 : Int) < (t : Int) + s.size := by omega
            go_wp2
            go_roundw
            case rel => exact ⟨i + 1, t + s.size, by omega, by omega, by go_num, by go_num, trivial⟩
            case measure => go_light; simp [intOf]; omega
    · have d1 : ¬ (i : Int) < n := by omega
      by_cases u1 : 1048576 < m
      · have u1' : (1048576 : Int) < m := by omega
        go_wp2
        go_ret
        exact ⟨⟨_, rfl, fun _ => trivial⟩, rfl⟩
      · have u1' : ¬ (1048576 : Int) < m := by omega
        by_cases u2 : 1048576 < t + m
        · have u2' : (1048576 : Int) < (t : Int) + m := by omega
          go_wp2
          go_ret
          exact ⟨⟨_, rfl, fun _ => trivial⟩, rfl⟩
        · have u2' : ¬ (1048576 : Int) < (t : Int) + m := by omega
          go_wp2
          go_loopw [5, 7] (fun z s wr => ∃ i t : Nat, i ≤ m ∧ t ≤ 1048576 ∧ z = .int .i64 t ∧ s = .int .i64 i ∧ w = wr) (fun _ s _ => m - (intOf s).toNat)
          case atStart => exact ⟨0, t + m, Nat.zero_le _, by omega, by go_num, rfl, rfl⟩
          case round =>
            obtain ⟨k, t2, hk, ht2, rfl, rfl, rfl⟩ := hrel
            by_cases hlt2 : k < m
            · rcases unhide HR with h | ⟨b, o, rfl, hb, hc⟩
              · omega
              · obtain ⟨ap, eap⟩ : ∃ a, a = A k := ⟨_, rfl⟩
                obtain ⟨lk, elk⟩ : ∃ a, a = L k := ⟨_, rfl⟩
                have hci := hc k hlt2
                have hlz := unhide HSL k hlt2
                have hshk := hide (unhide HT k hlt2)
                have hszk := hide (unhide HST k hlt2)
                rw [← eap, ← elk] at hshk
                rw [← elk] at hszk
                rw [← eap, ← elk] at hci
                rw [← elk] at hlz
                clear eap elk hc hb
                have d2 : (k : Int) < m := by omega
                by_cases u3 : 1048576 < lk
                · have u3' : (1048576 : Int) < lk := by omega
                  go_wp2
                  go_ret
                  exact ⟨⟨_, rfl, fun _ => trivial⟩, rfl⟩
                · have u3' : ¬ (1048576 : Int) < lk := by omega
                  by_cases u4 : 1048576 < t2 + lk
                  · have u4' : (1048576 : Int) < (t2 : Int) + lk := by omega
                    go_wp2
                    go_ret
                    exact ⟨⟨_, rfl, fun _ => trivial⟩, rfl⟩
                  · have u4' : ¬ (1048576 : Int) < (t2 : Int) + lk := by omega
                    go_wp2
                    go_loopw [5, 8] (fun z s wr => ∃ i t : Nat, i ≤ lk ∧ t ≤ 1048576 ∧ z = .int .i64 t ∧ s = .int .i64 i ∧ w = wr) (fun _ s _ => lk - (intOf s).toNat)
                    case atStart => exact ⟨0, t2 + lk, Nat.zero_le _, by omega, by go_num, rfl, rfl⟩
                    case round =>
                      obtain ⟨j, t3, hj, ht3, rfl, rfl, rfl⟩ := hrel
                      by_cases hlt3 : j < lk
                      · rcases unhide hshk with h | ⟨b2, o2, rfl, hb2, hc2⟩
                        · omega
                        · obtain ⟨s, es⟩ : ∃ s, s = T k j := ⟨_, rfl⟩
                          have hcj := hc2 j hlt3
                          have hsz := unhide hszk j hlt3
                          rw [← es] at hcj hsz
                          clear es hc2 hb2
                          have d3 : (j : Int) < lk := by omega
                          by_cases u5 : 1048576 < s.size
                          · have u5' : (1048576 : Int) < s.size := by omega
                            go_wp2
                            go_ret
                            exact ⟨⟨_, rfl, fun _ => trivial⟩, rfl⟩
                          · have u5' : ¬ (1048576 : Int) < s.size := by omega
                            by_cases u6 : 1048576 < t3 + s.size
                            · have u6' : (1048576 : Int) < (t3 : Int) + s.size := by omega
                              go_wp2
                              go_ret
                              exact ⟨⟨_, rfl, fun _ => trivial⟩, rfl⟩
                            · have u6' : ¬ (1048576 : Int) < (t3 : Int) + s.size := by omega
                              go_wp2
                              go_roundw
                              case rel => exact ⟨j + 1, t3 + s.size, by omega, by omega, by go_num, by go_num, trivial⟩
                              case measure => go_light; simp [intOf]; omega
                      · have d3 : ¬ (j : Int) < lk := by omega
                        go_wp2
                        go_roundw
                        case rel => exact ⟨k + 1, t3, by omega, by omega, rfl, by go_num, trivial⟩
                        case measure => go_light; simp [intOf]; omega
            · have d2 : ¬ (k : Int) < m := by omega
              go_wp2
              go_ret
              exact ⟨⟨_, rfl, fun _ => trivial⟩, rfl⟩

set_option maxHeartbeats 2000000 in
/-- zzSwitchesTooBigB1: where it answers false, the lengths are bounded. -/
theorem big8 (p q : Option Addr) (n c m d : Nat) (S : Nat → ByteArray) (A : Nat → Option Addr) (L C : Nat → Nat) (T : Nat → Nat → ByteArray) (w : World) (hn : n ≤ 9223372036854775807) (hm : m ≤ 9223372036854775807)
    (hs : ShowsS w p n S) (hr : ShowsR w q m A L C) (ht : ∀ i, i < m → ShowsS w (A i) (L i) (T i)) (hS : ∀ i, i < n → (S i).size ≤ 9223372036854775807) (hL : ∀ i, i < m → L i ≤ 9223372036854775807) (hT : ∀ i, i < m → ∀ j, j < L i → (T i j).size ≤ 9223372036854775807) :
    Calls Trym.prog 8 #[.slice p n c, .slice q m d] w fun e w' => Big e (n ≤ 131072 ∧ m ≤ 131072 ∧ ∀ i, i < m → L i ≤ 131072) ∧ w' = w := by
  have HS := hide hs
  have HR := hide hr
  have HT := hide ht
  have HSS := hide hS
  have HSL := hide hL
  have HST := hide hT
  clear hs hr ht hS hL hT
  by_cases t1 : 131072 < n
  · have t1' : (131072 : Int) < n := by omega
    go_enter Trym.func8, Trym.ntmps8
    go_wp2
    go_ret
    exact ⟨⟨_, rfl, fun h => by cases h⟩, rfl⟩
  have t1' : ¬ (131072 : Int) < n := by omega
  by_cases t2 : 131072 < m
  · have t2' : (131072 : Int) < m := by omega
    go_enter Trym.func8, Trym.ntmps8
    go_wp2
    go_ret
    exact ⟨⟨_, rfl, fun h => by cases h⟩, rfl⟩
  have t2' : ¬ (131072 : Int) < m := by omega
  by_cases t3 : 1048576 < 8 * n + 8 * m
  · have t3' : (1048576 : Int) < 8 * n + 8 * m := by omega
    go_enter Trym.func8, Trym.ntmps8
    go_wp2
    go_ret
    exact ⟨⟨_, rfl, fun h => by cases h⟩, rfl⟩
  have t3' : ¬ (1048576 : Int) < 8 * n + 8 * m := by omega
  go_enter Trym.func8, Trym.ntmps8
  go_wp2
  go_loopw [5, 6] (fun z s wr => ∃ i t : Nat, i ≤ n ∧ t ≤ 1048576 ∧ z = .int .i64 t ∧ s = .int .i64 i ∧ w = wr) (fun _ s _ => n - (intOf s).toNat)
  case atStart => exact ⟨0, 8 * n + 8 * m, Nat.zero_le _, by omega, by go_num, rfl, rfl⟩
  case round =>
    obtain ⟨i, t, hi, htt, rfl, rfl, rfl⟩ := hrel
    by_cases hlt : i < n
    · rcases unhide HS with h | ⟨b, o, rfl, hb, hc⟩
      · omega
      · obtain ⟨s, es⟩ : ∃ s, s = S i := ⟨_, rfl⟩
        have hci := hc i hlt
        have hsz := unhide HSS i hlt
        rw [← es] at hci hsz
        obtain ⟨z, ez⟩ : ∃ z, z = s.size := ⟨_, rfl⟩
        clear es hc hb
        have d1 : (i : Int) < n := by omega
        by_cases u1 : 1048576 < s.size
        · have u1' : (1048576 : Int) < s.size := by omega
          go_wp2
          go_ret
          exact ⟨⟨_, rfl, fun h => by cases h⟩, rfl⟩
        · have u1' : ¬ (1048576 : Int) < s.size := by omega
          by_cases u2 : 1048576 < t + s.size
          · have u2' : (1048576 : Int) < (t : Int) + s.size := by omega
            go_wp2
            go_ret
            exact ⟨⟨_, rfl, fun h => by cases h⟩, rfl⟩
          · have u2' : ¬ (1048576 : Int) < (t : Int) + s.size := by omega
            go_wp2
            go_roundw
            case rel => exact ⟨i + 1, t + s.size, by omega, by omega, by go_num, by go_num, trivial⟩
            case measure => go_light; simp [intOf]; omega
    · have d1 : ¬ (i : Int) < n := by omega
      go_wp2
      go_loopw [5, 7] (fun z s wr => ∃ i t : Nat, i ≤ m ∧ t ≤ 1048576 ∧ z = .int .i64 t ∧ s = .int .i64 i ∧ w = wr ∧ Hid (∀ j, j < i → L j ≤ 131072)) (fun _ s _ => m - (intOf s).toNat)
      case atStart => exact ⟨0, t, Nat.zero_le _, by omega, rfl, rfl, rfl, hide (fun j hj => by omega)⟩
      case round =>
        obtain ⟨k, t2, hk, ht2, rfl, rfl, rfl, HLL⟩ := hrel
        by_cases hlt2 : k < m
        · rcases unhide HR with h | ⟨b, o, rfl, hb, hc⟩
          · omega
          · obtain ⟨ap, eap⟩ : ∃ a, a = A k := ⟨_, rfl⟩
            obtain ⟨lk, elk⟩ : ∃ a, a = L k := ⟨_, rfl⟩
            have hci := hc k hlt2
            have hlz := unhide HSL k hlt2
            have hshk := hide (unhide HT k hlt2)
            have hszk := hide (unhide HST k hlt2)
            rw [← eap, ← elk] at hshk
            rw [← elk] at hszk
            rw [← eap, ← elk] at hci
            rw [← elk] at hlz
            have HEL := hide elk
            clear eap elk hc hb
            have d2 : (k : Int) < m := by omega
            by_cases u3 : 131072 < lk
            · have u3' : (131072 : Int) < lk := by omega
              go_wp2
              go_ret
              exact ⟨⟨_, rfl, fun h => by cases h⟩, rfl⟩
            · have u3' : ¬ (131072 : Int) < lk := by omega
              by_cases u4 : 1048576 < t2 + 8 * lk
              · have u4' : (1048576 : Int) < (t2 : Int) + 8 * lk := by omega
                go_wp2
                go_ret
                exact ⟨⟨_, rfl, fun h => by cases h⟩, rfl⟩
              · have u4' : ¬ (1048576 : Int) < (t2 : Int) + 8 * lk := by omega
                go_wp2
                go_loopw [5, 8] (fun z s wr => ∃ i t : Nat, i ≤ lk ∧ t ≤ 1048576 ∧ z = .int .i64 t ∧ s = .int .i64 i ∧ w = wr) (fun _ s _ => lk - (intOf s).toNat)
                case atStart => exact ⟨0, t2 + 8 * lk, Nat.zero_le _, by omega, by go_num, rfl, rfl⟩
                case round =>
                  obtain ⟨j, t3, hj, ht3, rfl, rfl, rfl⟩ := hrel
                  by_cases hlt3 : j < lk
                  · rcases unhide hshk with h | ⟨b2, o2, rfl, hb2, hc2⟩
                    · omega
                    · obtain ⟨s, es⟩ : ∃ s, s = T k j := ⟨_, rfl⟩
                      have hcj := hc2 j hlt3
                      have hsz := unhide hszk j hlt3
                      rw [← es] at hcj hsz
                      clear es hc2 hb2
                      have d3 : (j : Int) < lk := by omega
                      by_cases u5 : 1048576 < s.size
                      · have u5' : (1048576 : Int) < s.size := by omega
                        go_wp2
                        go_ret
                        exact ⟨⟨_, rfl, fun h => by cases h⟩, rfl⟩
                      · have u5' : ¬ (1048576 : Int) < s.size := by omega
                        by_cases u6 : 1048576 < t3 + s.size
                        · have u6' : (1048576 : Int) < (t3 : Int) + s.size := by omega
                          go_wp2
                          go_ret
                          exact ⟨⟨_, rfl, fun h => by cases h⟩, rfl⟩
                        · have u6' : ¬ (1048576 : Int) < (t3 : Int) + s.size := by omega
                          go_wp2
                          go_roundw
                          case rel => exact ⟨j + 1, t3 + s.size, by omega, by omega, by go_num, by go_num, trivial⟩
                          case measure => go_light; simp [intOf]; omega
                  · have d3 : ¬ (j : Int) < lk := by omega
                    go_wp2
                    go_roundw
                    case rel =>
                      refine ⟨k + 1, t3, by omega, by omega, rfl, by go_num, trivial, hide (fun j' hj' => ?_)⟩
                      by_cases e : j' = k
                      · subst e; rw [← unhide HEL]; omega
                      · exact unhide HLL j' (by omega)
                    case measure => go_light; simp [intOf]; omega
        · have d2 : ¬ (k : Int) < m := by omega
          go_wp2
          go_ret
          exact ⟨⟨_, rfl, fun _ => ⟨by omega, by omega, fun j hj => unhide HLL j (by omega)⟩⟩, rfl⟩

end Go.Proofs.Qxb6600042aMods
