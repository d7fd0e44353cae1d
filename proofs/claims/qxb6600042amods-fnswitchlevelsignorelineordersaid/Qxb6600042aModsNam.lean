import Derived.Test.Qxb6600042aModsSize
import Derived.Maps.OwnSet
namespace Go.Proofs.Qxb6600042aMods
open Go.RowKit Go.WideMaps Go.Maps

theorem keyLaw : Keyed Trym.prog 9 := string_keyed Trym.underlying9
theorem zero3 (w : World) : (zeroValue 3).run Trym.prog w = .ok (.int .i64 0) w := by kernel_rfl
theorem run_makeMap_hint (n : Nat) (w : World) : (Instr.makeMap 25 (some (.int .i64 (n : Int)))).run Trym.prog w = .ok (.map (some w.heap.size)) (w.alloc (.map #[] 0)) := by
  simp [Instr.makeMap, run_underlying Trym.underlying25, asInt, asIntOf, Result.andThen]

/-- A name as a key. -/
def nkey (s : ByteArray) : Lit := .string s.data.toList
theorem nkey_ok (s : ByteArray) : WideAt.IsKeyLit (nkey s) := by simp [WideAt.IsKeyLit, nkey]
theorem nkey_inj {s t : ByteArray} (h : nkey s = nkey t) : s = t := by
  unfold nkey at h
  cases s; cases t
  simp only [Lit.string.injEq, Array.toList_inj] at h
  rw [h]

/-- The last index below k whose name is s. -/
def lastIx (S : Nat → ByteArray) : Nat → ByteArray → Option Nat
  | 0, _ => none
  | k + 1, s => if (S k).data.toList = s.data.toList then some k else lastIx S k s
theorem lastIx_yes {S : Nat → ByteArray} {k : Nat} {s : ByteArray} (e : nkey (S k) = nkey s) : lastIx S (k + 1) s = some k := by
  unfold lastIx
  rw [if_pos (by simpa [nkey] using e)]
theorem lastIx_no {S : Nat → ByteArray} {k : Nat} {s : ByteArray} (e : ¬ nkey (S k) = nkey s) : lastIx S (k + 1) s = lastIx S k s := by
  show (if (S k).data.toList = s.data.toList then some k else lastIx S k s) = _
  rw [if_neg (fun h => e (by simpa [nkey] using h))]

/-- The map behind k rounds. -/
def byN (S : Nat → ByteArray) : Nat → DataW Unit
  | 0 => .map []
  | k + 1 => (byN S k).put (nkey (S k)) (.lit (.int .i64 k))

theorem byN_tidy (S : Nat → ByteArray) : ∀ k, Tidy (byN S k)
  | 0 => tidy_empty
  | k + 1 => (byN_tidy S k).put (nkey_ok _) _

theorem byN_has (S : Nat → ByteArray) (s : ByteArray) : ∀ k, Maps.has (byN S k) (nkey s) = (lastIx S k s).isSome
  | 0 => rfl
  | k + 1 => by
    show Maps.has ((byN S k).put _ _) _ = _
    by_cases e : nkey (S k) = nkey s
    · rw [lastIx_yes e, e, has_put_same (byN_tidy S k).isMap (nkey_ok _)]; rfl
    · rw [lastIx_no e, has_put_other (Ne.symm e), byN_has S s k]

theorem byN_at (S : Nat → ByteArray) (s : ByteArray) (j : Nat) : ∀ k (z : DataW Unit), lastIx S k s = some j → (byN S k).atKey (nkey s) z = .lit (.int .i64 j)
  | 0, _ => fun h => by cases h
  | k + 1, z => fun h => by
    show ((byN S k).put _ _).atKey _ _ = _
    by_cases e : nkey (S k) = nkey s
    · rw [lastIx_yes e] at h
      obtain rfl : k = j := by simpa using h
      rw [e, atKey_put_same (byN_tidy S k).isMap (nkey_ok _)]
    · rw [lastIx_no e] at h
      rw [atKey_put_other (Ne.symm e), byN_at S s j k z h]

theorem lastIx_lt (S : Nat → ByteArray) (s : ByteArray) (j : Nat) : ∀ k, lastIx S k s = some j → j < k ∧ S j = s
  | 0 => fun h => by cases h
  | k + 1 => fun h => by
    by_cases e : nkey (S k) = nkey s
    · rw [lastIx_yes e] at h
      cases h
      exact ⟨by omega, nkey_inj e⟩
    · rw [lastIx_no e] at h
      have := lastIx_lt S s j k h
      exact ⟨by omega, this.2⟩

theorem lastIx_none (S : Nat → ByteArray) (s : ByteArray) : ∀ k, lastIx S k s = none → ∀ j, j < k → S j ≠ s
  | 0 => fun _ j hj => by omega
  | k + 1 => fun h j hj => by
    by_cases e : nkey (S k) = nkey s
    · rw [lastIx_yes e] at h; cases h
    · rw [lastIx_no e] at h
      by_cases ej : j = k
      · subst ej; intro e2; exact e (by rw [e2])
      · exact lastIx_none S s k h j (by omega)

theorem size_le (S : Nat → ByteArray) : ∀ k, Maps.size (byN S k) ≤ k
  | 0 => Nat.le_refl _
  | k + 1 => by
    show Maps.size ((byN S k).put _ _) ≤ _
    rw [size_put (byN_tidy S k)]
    have := size_le S k
    split <;> omega

/-- As many entries as names: no name twice. -/
theorem size_full (S : Nat → ByteArray) : ∀ k, Maps.size (byN S k) = k → ∀ j i, j < i → i < k → S j ≠ S i
  | 0 => fun _ j i _ hi => by omega
  | k + 1 => fun h j i hj hi => by
    have h' : Maps.size ((byN S k).put (nkey (S k)) (.lit (.int .i64 k))) = k + 1 := h
    rw [size_put (byN_tidy S k)] at h'
    have h1 := size_le S k
    by_cases e : Maps.has (byN S k) (nkey (S k)) = true
    · rw [if_pos e] at h'; omega
    · rw [if_neg e] at h'
      by_cases ei : i = k
      · subst ei
        rw [byN_has] at e
        have : lastIx S i (S i) = none := by simpa using e
        exact lastIx_none S (S i) i this j hj
      · exact size_full S k (by omega) j i hj (by omega)

/-- With no name twice, the index does not hang on the order. -/
theorem lastIx_one (S : Nat → ByteArray) (n j : Nat) (s : ByteArray) (hd : ∀ j i, j < i → i < n → S j ≠ S i) (hj : j < n) (e : S j = s) : lastIx S n s = some j := by
  cases h : lastIx S n s with
  | none => exact absurd e (lastIx_none S s n h j hj)
  | some i =>
    obtain ⟨h1, h2⟩ := lastIx_lt S s i n h
    by_cases hij : i = j
    · rw [hij]
    · rcases Nat.lt_or_ge i j with h3 | h3
      · exact absurd (h2.trans e.symm) (hd i j h3 hj)
      · exact absurd (e.trans h2.symm) (hd j i (by omega) h1)

theorem lastIx_rev (S R : Nat → ByteArray) (n : Nat) (s : ByteArray) (hd : ∀ j i, j < i → i < n → S j ≠ S i) (hR : ∀ i, i < n → R (n - 1 - i) = S i) :
    lastIx R n s = (lastIx S n s).map (n - 1 - ·) := by
  have hd' : ∀ j i, j < i → i < n → R j ≠ R i := by
    intro j i hj hi
    have h1 := hR (n - 1 - j) (by omega)
    have h2 := hR (n - 1 - i) (by omega)
    rw [show n - 1 - (n - 1 - j) = j by omega] at h1
    rw [show n - 1 - (n - 1 - i) = i by omega] at h2
    rw [h1, h2]
    exact fun e => hd (n - 1 - i) (n - 1 - j) (by omega) (by omega) e.symm
  cases h : lastIx S n s with
  | some j =>
    obtain ⟨h1, h2⟩ := lastIx_lt S s j n h
    exact lastIx_one R n (n - 1 - j) s hd' (by omega) (by rw [hR j h1]; exact h2)
  | none =>
    cases h' : lastIx R n s with
    | none => rfl
    | some j =>
      obtain ⟨h1, h2⟩ := lastIx_lt R s j n h'
      have h3 := hR (n - 1 - j) (by omega)
      rw [show n - 1 - (n - 1 - j) = j by omega] at h3
      exact absurd (h3.symm.trans h2) (lastIx_none S s n h (n - 1 - j) (by omega))

set_option maxHeartbeats 1000000 in
/-- zzByNameB1. -/
theorem byName_any (p : Option Addr) (n c : Nat) (S : Nat → ByteArray) (w : World) (hn : n ≤ 1048576) (hs : ShowsS w p n S) (hS : ∀ i, i < n → (S i).size ≤ maxLen) :
    Calls Trym.prog 9 #[.slice p n c] w fun e w' => e = .returned (.map (some w.heap.size)) ∧ w'.ownsMap Trym.prog 9 (plainElem Trym.prog 3) w.heap.size n (byN S n) ∧ Below w.heap.size w w' := by
  have hmm := run_makeMap_hint n
  have HS := hide hs
  have HSS := hide hS
  clear hs hS
  go_enter Trym.func9, Trym.ntmps9
  go_wp2
  go_loopw [4] (fun i wr => ∃ k : Nat, k ≤ n ∧ i = .int .i64 k ∧ wr.ownsMap Trym.prog 9 (plainElem Trym.prog 3) w.heap.size k (byN S k) ∧ Below w.heap.size w wr) (fun i _ => n - (intOf i).toNat)
  case atStart => exact ⟨0, Nat.zero_le _, rfl, World.ownsMap_made _ _ _ _, (Below.refl _ _).alloc (Nat.le_refl _) _⟩
  case round =>
    obtain ⟨k, hk, rfl, hown, hnx⟩ := hrel
    by_cases hlt : k < n
    · rcases unhide HS with h | ⟨b, o, rfl, hb, hc⟩
      · omega
      · obtain ⟨s, es⟩ : ∃ s, s = S k := ⟨_, rfl⟩
        have hcx := (hnx.cell (p := ⟨b, o + k, none⟩) (by exact hb)).trans (hc k hlt)
        have hkey : keyOf Trym.prog 9 (.string s) = some (nkey (S k)) := by rw [es]; exact keyOf_string_mk Trym.underlying9 (unhide HSS k hlt)
        rw [← es] at hcx
        have d1 : (k : Int) < n := by omega
        clear es hc
        go_wp2_with (at_mapUpdate; refine wpList_mapUpdate_own _ rfl _ _ _ 25 rfl 9 3 keyLaw Trym.underlying25 _ w.heap.size k _ rfl hown (by unfold maxLen; omega) _ _ _ rfl rfl hkey _ [] (plainElem_int Trym.underlying3 (WalkArith.wf_i64 (by omega))) ?_)
        intro w1 hown1 hgrow1
        have R1 : w1.ownsMap Trym.prog 9 (plainElem Trym.prog 3) w.heap.size (k + 1) (byN S (k + 1)) := hown1
        have R2 := hnx.grown hgrow1 hnx.size (fun j hj => by cases hj; exact Nat.le_refl _)
        clear hown1 hgrow1 hown hcx
        go_wp2
        go_roundw
        case rel => exact ⟨k + 1, by omega, by go_num, R1, R2⟩
        case measure => simp [intOf]; omega
    · have d1 : ¬ (k : Int) < n := by omega
      obtain rfl : k = n := by omega
      go_wp2
      go_ret
      exact ⟨rfl, hown, hnx⟩

end Go.Proofs.Qxb6600042aMods
