/-
  strings.LastIndexByte (10, 11) and lastNamesFrom (9): their contracts.
-/
import Derived.Test.Qxb6601456aRows
import Derived.Test.Qxb6601456aPlain
import Derived.WalkKit
import Derived.WalkSpells
import Derived.WalkLawsBesides
namespace Go.Proofs.Qxb6601456a
open Go.RowKit Plain
set_option linter.unusedVariables false

/-- does a slash stand at i? -/
def slash (s : ByteArray) (i : Nat) : Bool := if h : i < s.size then ((s[i].toNat : Int) == 47) else false

theorem slash_at (s : ByteArray) (k : Nat) (h : k < s.size) : ((s[k].toNat : Int) == 47) = slash s k := by unfold slash; rw [dif_pos h]

set_option maxHeartbeats 800000 in
theorem lastIndex (s : ByteArray) (w : World) (hs : s.size ≤ 1048576) : Calls Try.prog 11 #[.string s, .int .u8 47] w fun e w' => e = .returned (.int .i64 (lastBelow (slash s) s.size)) ∧ w = w' := by
  go_enter Try.func11, Try.ntmps11
  go_wp2
  go_loop [5] (fun i => ∃ k : Nat, k ≤ s.size ∧ i = .int .i64 ((k : Int) - 1) ∧ Hid (lastBelow (slash s) s.size = lastBelow (slash s) k)) (fun i => (intOf i + 1).toNat)
  case atStart => exact ⟨s.size, Nat.le_refl _, rfl, rfl⟩
  case round =>
    obtain ⟨k, hk, rfl, hl⟩ := hrel
    cases k with
    | zero =>
      go_wp2
      go_ret
      exact ⟨by rw [hl.out]; rfl, rfl⟩
    | succ k =>
      have hat := slash_at s k (by omega)
      have HL : Hid (lastBelow (slash s) s.size = if slash s k = true then (k : Int) else lastBelow (slash s) k) := hl
      clear hl
      cases hsl : slash s k
      · rw [hsl] at hat
        have HL' : Hid (lastBelow (slash s) s.size = lastBelow (slash s) k) := by show _ = _; rw [HL.out, hsl, if_neg (by simp)]
        clear HL hsl
        go_wp2
        go_round
        case rel => exact ⟨k, by omega, rfl, HL'⟩
        case measure => simp [intOf]
      · rw [hsl] at hat
        have HL' : Hid (lastBelow (slash s) s.size = k) := by show _ = _; rw [HL.out, hsl, if_pos rfl]
        clear HL hsl
        go_wp2
        go_ret
        exact ⟨by rw [HL'.out]; rfl, rfl⟩

theorem slash_extract (s : ByteArray) (e i : Nat) (he : e ≤ s.size) (hi : i < e) : slash (s.extract 0 e) i = slash s i := by
  have h1 : i < (s.extract 0 e).size := by simp; omega
  have h2 : i < s.size := by omega
  unfold slash
  rw [dif_pos h1, dif_pos h2]
  congr 2
  rw [ByteArray.getElem_extract]
  simp

theorem size_extract0 (s : ByteArray) (e : Nat) (he : e ≤ s.size) : (s.extract 0 e).size = e := by simp; omega

theorem lastOf (s : ByteArray) (e : Nat) (w : World) (hs : s.size ≤ 1048576) (he : e ≤ s.size) : Calls Try.prog 10 #[.string (s.extract 0 e), .int .u8 47] w fun r w' => r = .returned (.int .i64 (lastBelow (slash s) e)) ∧ w = w' := by
  have h1 := size_extract0 s e he
  have h2 : lastBelow (slash (s.extract 0 e)) (s.extract 0 e).size = lastBelow (slash s) e := by rw [h1]; exact last_congr e (fun i hi => slash_extract s e i he hi)
  rw [← h2]
  clear h2
  generalize s.extract 0 e = t at h1
  have ht : t.size ≤ 1048576 := by omega
  clear h1
  go_enter Try.func10, Try.ntmps10
  go_wp2_with (first | (go_at_call 11; refine (lastIndex _ _ ht).mono ?_; rintro r w' ⟨rfl, rfl⟩))
  go_ret
  exact ⟨rfl, rfl⟩

/-! ### lastNamesFrom: N rounds: too few names; just as many; more -/
set_option maxHeartbeats 800000 in
theorem last_few (s : ByteArray) (N : Nat) (n : Int) (hn0 : -9223372036854775808 < n) (hn1 : n ≤ 9223372036854775807) (hNa : n - 1 ≤ (N : Int)) (HN : Hid (N = 0 ∨ (N : Int) = n - 1)) (w : World) (hs : s.size ≤ 1048576) (HK : Hid (cnt (slash s) s.size < N)) :
    Calls Try.prog 9 #[.string s, .int .i64 n] w fun r w' => r = .returned (.tuple #[.int .i64 0, .bool false]) ∧ w = w' := by
  have hkl := cnt_le (slash s) s.size
  go_enter Try.func9, Try.ntmps9
  go_wp2
  go_loop [6, 12] (fun e i => ∃ r t : Nat, t ≤ s.size ∧ e = .int .i64 t ∧ i = .int .i64 r ∧ r ≤ N ∧ Hid (cnt (slash s) t + r = cnt (slash s) s.size)) (fun _ i => N - (intOf i).toNat)
  case atStart => exact ⟨0, s.size, Nat.le_refl _, rfl, rfl, Nat.zero_le _, rfl⟩
  case round =>
    obtain ⟨r, t, ht, rfl, rfl, hr, hc⟩ := hrel
    by_cases hlt : r < N
    · have hl2 : (r : Int) < n - 1 := by rcases HN.out with h | h <;> omega
      by_cases hz : cnt (slash s) t = 0
      · have HLI : Hid (lastBelow (slash s) t = -1) := last_none (slash s) t hz
        clear hc hz
        go_wp2_with (first | (go_at_call 10; refine (lastOf s t _ hs ht).mono ?_; rintro e w' ⟨rfl, rfl⟩; rw [HLI.out]))
        go_ret2
        exact ⟨rfl, rfl⟩
      · obtain ⟨i, hli, hit, hpi, hci⟩ := last_some (slash s) t (by omega)
        have HC : Hid (cnt (slash s) i + (r + 1) = cnt (slash s) s.size) := by show _ = _; have := hc.out; omega
        have HLI : Hid (lastBelow (slash s) t = i) := hli
        clear hc hz hci hli
        go_wp2_with (first | (go_at_call 10; refine (lastOf s t _ hs ht).mono ?_; rintro e w' ⟨rfl, rfl⟩; rw [HLI.out]))
        go_round
        case rel => exact ⟨r + 1, i, by omega, rfl, by go_num, by omega, HC⟩
        case measure => simp [intOf]; omega
    · exact absurd hc.out (by have := HK.out; omega)
set_option maxHeartbeats 800000 in
theorem last_all (s : ByteArray) (N : Nat) (n : Int) (hn0 : -9223372036854775808 < n) (hn1 : n ≤ 9223372036854775807) (hNa : n - 1 ≤ (N : Int)) (HN : Hid (N = 0 ∨ (N : Int) = n - 1)) (w : World) (hs : s.size ≤ 1048576) (HK : Hid (cnt (slash s) s.size = N)) :
    Calls Try.prog 9 #[.string s, .int .i64 n] w fun r w' => r = .returned (.tuple #[.int .i64 0, .bool true]) ∧ w = w' := by
  have hkl := cnt_le (slash s) s.size
  go_enter Try.func9, Try.ntmps9
  go_wp2
  go_loop [6, 12] (fun e i => ∃ r t : Nat, t ≤ s.size ∧ e = .int .i64 t ∧ i = .int .i64 r ∧ r ≤ N ∧ Hid (cnt (slash s) t + r = cnt (slash s) s.size)) (fun _ i => N - (intOf i).toNat)
  case atStart => exact ⟨0, s.size, Nat.le_refl _, rfl, rfl, Nat.zero_le _, rfl⟩
  case round =>
    obtain ⟨r, t, ht, rfl, rfl, hr, hc⟩ := hrel
    by_cases hlt : r < N
    · have hl2 : (r : Int) < n - 1 := by rcases HN.out with h | h <;> omega
      by_cases hz : cnt (slash s) t = 0
      · exact absurd hc.out (by have := HK.out; omega)
      · obtain ⟨i, hli, hit, hpi, hci⟩ := last_some (slash s) t (by omega)
        have HC : Hid (cnt (slash s) i + (r + 1) = cnt (slash s) s.size) := by show _ = _; have := hc.out; omega
        have HLI : Hid (lastBelow (slash s) t = i) := hli
        clear hc hz hci hli
        go_wp2_with (first | (go_at_call 10; refine (lastOf s t _ hs ht).mono ?_; rintro e w' ⟨rfl, rfl⟩; rw [HLI.out]))
        go_round
        case rel => exact ⟨r + 1, i, by omega, rfl, by go_num, by omega, HC⟩
        case measure => simp [intOf]; omega
    · have hl2 : ¬ (r : Int) < n - 1 := by omega
      have hrN : Hid (r = N) := by show r = N; omega
      have HLI : Hid (lastBelow (slash s) t = -1) := last_none (slash s) t (by have := hc.out; have := HK.out; have := hrN.out; omega)
      clear hc hrN
      go_wp2_with (first | (go_at_call 10; refine (lastOf s t _ hs ht).mono ?_; rintro e w' ⟨rfl, rfl⟩; rw [HLI.out]))
      go_ret2
      exact ⟨rfl, rfl⟩
set_option maxHeartbeats 800000 in
theorem last_more (s : ByteArray) (N : Nat) (n : Int) (hn0 : -9223372036854775808 < n) (hn1 : n ≤ 9223372036854775807) (hNa : n - 1 ≤ (N : Int)) (HN : Hid (N = 0 ∨ (N : Int) = n - 1)) (i0 : Nat) (w : World) (hs : s.size ≤ 1048576) (HK : Hid (N < cnt (slash s) s.size)) (hi0 : i0 < s.size) (HP : Hid (slash s i0 = true)) (HI : Hid (cnt (slash s) (i0 + 1) + N = cnt (slash s) s.size)) :
    Calls Try.prog 9 #[.string s, .int .i64 n] w fun r w' => r = .returned (.tuple #[.int .i64 ((i0 : Int) + 1), .bool true]) ∧ w = w' := by
  have hkl := cnt_le (slash s) s.size
  go_enter Try.func9, Try.ntmps9
  go_wp2
  go_loop [6, 12] (fun e i => ∃ r t : Nat, t ≤ s.size ∧ e = .int .i64 t ∧ i = .int .i64 r ∧ r ≤ N ∧ Hid (cnt (slash s) t + r = cnt (slash s) s.size)) (fun _ i => N - (intOf i).toNat)
  case atStart => exact ⟨0, s.size, Nat.le_refl _, rfl, rfl, Nat.zero_le _, rfl⟩
  case round =>
    obtain ⟨r, t, ht, rfl, rfl, hr, hc⟩ := hrel
    by_cases hlt : r < N
    · have hl2 : (r : Int) < n - 1 := by rcases HN.out with h | h <;> omega
      by_cases hz : cnt (slash s) t = 0
      · exact absurd hc.out (by have := HK.out; omega)
      · obtain ⟨i, hli, hit, hpi, hci⟩ := last_some (slash s) t (by omega)
        have HC : Hid (cnt (slash s) i + (r + 1) = cnt (slash s) s.size) := by show _ = _; have := hc.out; omega
        have HLI : Hid (lastBelow (slash s) t = i) := hli
        clear hc hz hci hli
        go_wp2_with (first | (go_at_call 10; refine (lastOf s t _ hs ht).mono ?_; rintro e w' ⟨rfl, rfl⟩; rw [HLI.out]))
        go_round
        case rel => exact ⟨r + 1, i, by omega, rfl, by go_num, by omega, HC⟩
        case measure => simp [intOf]; omega
    · have hl2 : ¬ (r : Int) < n - 1 := by omega
      have hrN : Hid (r = N) := by show r = N; omega
      have HLI : Hid (lastBelow (slash s) t = i0) := by
        have h1 := hc.out
        have h2 := HK.out
        have h3 := hrN.out
        have h4 := HI.out
        obtain ⟨i, hli, hit, hpi, hci⟩ := last_some (slash s) t (by omega)
        have h5 : i = i0 := unique (slash s) hpi HP.out (by rw [cnt_succ_pos (slash s) hpi]; omega)
        show _ = _
        rw [hli, h5]
      clear hc hrN
      go_wp2_with (first | (go_at_call 10; refine (lastOf s t _ hs ht).mono ?_; rintro e w' ⟨rfl, rfl⟩; rw [HLI.out]))
      go_ret2
      exact ⟨rfl, rfl⟩
end Go.Proofs.Qxb6601456a
