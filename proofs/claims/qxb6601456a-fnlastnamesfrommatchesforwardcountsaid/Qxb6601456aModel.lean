/-
  lastNamesFrom at the least int; zzb1NamesModel (7): their contracts.
-/
import Derived.Test.Qxb6601456aLast
namespace Go.Proofs.Qxb6601456a
open Go.RowKit Plain
set_option linter.unusedVariables false

theorem wrap_least : 1048577 < wrap64 (-9223372036854775809) := by unfold wrap64; omega

set_option maxHeartbeats 800000 in
/-- at the least int: n - 1 wraps to the greatest: too few names -/
theorem last_least (s : ByteArray) (w : World) (hs : s.size ≤ 1048576) :
    Calls Try.prog 9 #[.string s, .int .i64 (-9223372036854775808)] w fun r w' => r = .returned (.tuple #[.int .i64 0, .bool false]) ∧ w = w' := by
  have hkl := cnt_le (slash s) s.size
  have hwm := wrap_least
  go_enter Try.func9, Try.ntmps9
  go_wp2
  go_loop [6, 12] (fun e i => ∃ r t : Nat, t ≤ s.size ∧ e = .int .i64 t ∧ i = .int .i64 r ∧ r ≤ s.size ∧ Hid (cnt (slash s) t + r = cnt (slash s) s.size)) (fun _ i => s.size + 1 - (intOf i).toNat)
  case atStart => exact ⟨0, s.size, Nat.le_refl _, rfl, rfl, Nat.zero_le _, rfl⟩
  case round =>
    obtain ⟨r, t, ht, rfl, rfl, hr, hc⟩ := hrel
    by_cases hz : cnt (slash s) t = 0
    · have HLI : Hid (lastBelow (slash s) t = -1) := last_none (slash s) t hz
      clear hc hz
      go_wp2_with (first | (go_at_call 10; refine (lastOf s t _ hs ht).mono ?_; rintro e w' ⟨rfl, rfl⟩; rw [HLI.out]))
      go_ret2
      exact ⟨rfl, rfl⟩
    · obtain ⟨i, hli, hit, hpi, hci⟩ := last_some (slash s) t (by omega)
      have HC : Hid (cnt (slash s) i + (r + 1) = cnt (slash s) s.size) := by show _ = _; have := hc.out; omega
      have hr1 : r + 1 ≤ s.size := by have := HC.out; omega
      have HLI : Hid (lastBelow (slash s) t = i) := hli
      clear hc hz hci hli
      go_wp2_with (first | (go_at_call 10; refine (lastOf s t _ hs ht).mono ?_; rintro e w' ⟨rfl, rfl⟩; rw [HLI.out]))
      go_round
      case rel => exact ⟨r + 1, i, by omega, rfl, by go_num, hr1, HC⟩
      case measure => simp [intOf]; omega

theorem model_least (s : ByteArray) (w : World) : Calls Try.prog 7 #[.string s, .int .i64 (-9223372036854775808)] w fun r w' => r = .returned (.tuple #[.int .i64 0, .bool false]) ∧ w = w' := by
  go_enter Try.func7, Try.ntmps7
  go_wp2
  go_ret2
  exact ⟨rfl, rfl⟩

set_option maxHeartbeats 800000 in
theorem model_few (s : ByteArray) (n : Int) (K : Nat) (w : World) (hs : s.size ≤ 1048576) (hn : (n == -9223372036854775808) = false) (hnh : n ≤ 9223372036854775807) (HKK : Hid (cnt (slash s) s.size = K)) (h1 : 1 ≤ n) (hk : (K : Int) + 1 < n) :
    Calls Try.prog 7 #[.string s, .int .i64 n] w fun r w' => r = .returned (.tuple #[.int .i64 0, .bool false]) ∧ w = w' := by
  have hkl : K ≤ s.size := by rw [← HKK.out]; exact cnt_le (slash s) s.size
  go_enter Try.func7, Try.ntmps7
  go_wp2
  go_loop [6, 7] (fun c i => ∃ t : Nat, t ≤ s.size ∧ i = .int .i64 t ∧ c = .int .i64 (cnt (slash s) t)) (fun _ i => s.size - (intOf i).toNat)
  case atStart => exact ⟨0, Nat.zero_le _, rfl, rfl⟩
  case round =>
    obtain ⟨t, ht, rfl, rfl⟩ := hrel
    have hct := cnt_le (slash s) t
    by_cases hlt : t < s.size
    · have hat := slash_at s t hlt
      cases hsl : slash s t
      · have HC : Hid (cnt (slash s) (t + 1) = cnt (slash s) t) := cnt_succ_neg (slash s) hsl
        rw [hsl] at hat
        clear hsl
        go_wp2
        go_round
        case rel => exact ⟨t + 1, by omega, by go_num, by rw [HC.out]⟩
        case measure => simp [intOf]; omega
      · have HC : Hid (cnt (slash s) (t + 1) = cnt (slash s) t + 1) := cnt_succ_pos (slash s) hsl
        rw [hsl] at hat
        clear hsl
        go_wp2
        go_round
        case rel => exact ⟨t + 1, by omega, by go_num, by rw [HC.out]; go_num⟩
        case measure => simp [intOf]; omega
    · have hK : Hid (cnt (slash s) t = K) := by show _ = _; rw [← HKK.out]; congr 1; omega
      rw [hK.out]
      clear hct hK
      go_wp2
      go_ret2
      exact ⟨rfl, rfl⟩

set_option maxHeartbeats 800000 in
theorem model_all (s : ByteArray) (n : Int) (K : Nat) (w : World) (hs : s.size ≤ 1048576) (hn : (n == -9223372036854775808) = false) (hnh : n ≤ 9223372036854775807) (HKK : Hid (cnt (slash s) s.size = K)) (h1 : 1 ≤ n) (hk : (K : Int) + 1 ≤ n) (hk2 : n ≤ (K : Int) + 1) :
    Calls Try.prog 7 #[.string s, .int .i64 n] w fun r w' => r = .returned (.tuple #[.int .i64 0, .bool true]) ∧ w = w' := by
  have hkl : K ≤ s.size := by rw [← HKK.out]; exact cnt_le (slash s) s.size
  go_enter Try.func7, Try.ntmps7
  go_wp2
  go_loop [6, 7] (fun c i => ∃ t : Nat, t ≤ s.size ∧ i = .int .i64 t ∧ c = .int .i64 (cnt (slash s) t)) (fun _ i => s.size - (intOf i).toNat)
  case atStart => exact ⟨0, Nat.zero_le _, rfl, rfl⟩
  case round =>
    obtain ⟨t, ht, rfl, rfl⟩ := hrel
    have hct := cnt_le (slash s) t
    by_cases hlt : t < s.size
    · have hat := slash_at s t hlt
      cases hsl : slash s t
      · have HC : Hid (cnt (slash s) (t + 1) = cnt (slash s) t) := cnt_succ_neg (slash s) hsl
        rw [hsl] at hat
        clear hsl
        go_wp2
        go_round
        case rel => exact ⟨t + 1, by omega, by go_num, by rw [HC.out]⟩
        case measure => simp [intOf]; omega
      · have HC : Hid (cnt (slash s) (t + 1) = cnt (slash s) t + 1) := cnt_succ_pos (slash s) hsl
        rw [hsl] at hat
        clear hsl
        go_wp2
        go_round
        case rel => exact ⟨t + 1, by omega, by go_num, by rw [HC.out]; go_num⟩
        case measure => simp [intOf]; omega
    · have hK : Hid (cnt (slash s) t = K) := by show _ = _; rw [← HKK.out]; congr 1; omega
      rw [hK.out]
      clear hct hK
      have hb0 : ((K : Int) + 1 - n == 0) = true := by simp; omega
      go_wp2
      go_ret2
      exact ⟨rfl, rfl⟩

set_option maxHeartbeats 800000 in
theorem model_more (s : ByteArray) (n : Int) (K : Nat) (i0 : Nat) (w : World) (hs : s.size ≤ 1048576) (hn : (n == -9223372036854775808) = false) (hnh : n ≤ 9223372036854775807) (HKK : Hid (cnt (slash s) s.size = K)) (h1 : 1 ≤ n) (hk : n < (K : Int) + 1) (hi0 : i0 < s.size) (HP : Hid (slash s i0 = true)) (HI : Hid ((cnt (slash s) (i0 + 1) : Int) = (K : Int) + 1 - n)) :
    Calls Try.prog 7 #[.string s, .int .i64 n] w fun r w' => r = .returned (.tuple #[.int .i64 ((i0 : Int) + 1), .bool true]) ∧ w = w' := by
  have hkl : K ≤ s.size := by rw [← HKK.out]; exact cnt_le (slash s) s.size
  go_enter Try.func7, Try.ntmps7
  go_wp2
  go_loop [6, 7] (fun c i => ∃ t : Nat, t ≤ s.size ∧ i = .int .i64 t ∧ c = .int .i64 (cnt (slash s) t)) (fun _ i => s.size - (intOf i).toNat)
  case atStart => exact ⟨0, Nat.zero_le _, rfl, rfl⟩
  case round =>
    obtain ⟨t, ht, rfl, rfl⟩ := hrel
    have hct := cnt_le (slash s) t
    by_cases hlt : t < s.size
    · have hat := slash_at s t hlt
      cases hsl : slash s t
      · have HC : Hid (cnt (slash s) (t + 1) = cnt (slash s) t) := cnt_succ_neg (slash s) hsl
        rw [hsl] at hat
        clear hsl
        go_wp2
        go_round
        case rel => exact ⟨t + 1, by omega, by go_num, by rw [HC.out]⟩
        case measure => simp [intOf]; omega
      · have HC : Hid (cnt (slash s) (t + 1) = cnt (slash s) t + 1) := cnt_succ_pos (slash s) hsl
        rw [hsl] at hat
        clear hsl
        go_wp2
        go_round
        case rel => exact ⟨t + 1, by omega, by go_num, by rw [HC.out]; go_num⟩
        case measure => simp [intOf]; omega
    · have hK : Hid (cnt (slash s) t = K) := by show _ = _; rw [← HKK.out]; congr 1; omega
      rw [hK.out]
      clear hct hK
      have hb0 : ((K : Int) + 1 - n == 0) = false := by simp; omega
      go_wp2
      go_loop [10, 11] (fun c i => ∃ q : Nat, q ≤ i0 ∧ i = .int .i64 q ∧ c = .int .i64 (cnt (slash s) q)) (fun _ i => i0 + 1 - (intOf i).toNat)
      case atStart => exact ⟨0, Nat.zero_le _, rfl, rfl⟩
      case round =>
        obtain ⟨q, hq, rfl, rfl⟩ := hrel
        have hcq := cnt_le (slash s) q
        by_cases hqi : q < i0
        · have hat := slash_at s q (by omega)
          cases hsl : slash s q
          · have HC : Hid (cnt (slash s) (q + 1) = cnt (slash s) q) := cnt_succ_neg (slash s) hsl
            rw [hsl] at hat
            clear hsl
            go_wp2
            go_round
            case rel => exact ⟨q + 1, by omega, by go_num, by rw [HC.out]⟩
            case measure => simp [intOf]; omega
          · have HC : Hid (cnt (slash s) (q + 1) = cnt (slash s) q + 1) := cnt_succ_pos (slash s) hsl
            have hnb : (((cnt (slash s) q : Nat) : Int) + 1 == (K : Int) + 1 - n) = false := by
              have h1 := cnt_lt_of (slash s) hqi HP.out
              have h2 := HC.out
              have h3 := HI.out
              simp
              omega
            rw [hsl] at hat
            clear hsl
            go_wp2
            go_round
            case rel => exact ⟨q + 1, by omega, by go_num, by rw [HC.out]; go_num⟩
            case measure => simp [intOf]; omega
        · have hqe : q = i0 := by omega
          have hsq : slash s q = true := by rw [hqe]; exact HP.out
          have hat := slash_at s q (by omega)
          rw [hsq] at hat
          clear hsq
          have hyb : (((cnt (slash s) q : Nat) : Int) + 1 == (K : Int) + 1 - n) = true := by
            have h2 := cnt_succ_pos (slash s) (show slash s q = true by rw [hqe]; exact HP.out)
            have h3 := HI.out
            rw [hqe] at h2
            rw [hqe]
            simp
            omega
          have HQ : Hid (q = i0) := hqe
          clear hqe
          go_wp2
          go_ret2
          exact ⟨by rw [← HQ.out]; rfl, rfl⟩

set_option maxHeartbeats 800000 in
theorem model_all0 (s : ByteArray) (n : Int) (K : Nat) (w : World) (hs : s.size ≤ 1048576) (hn : (n == -9223372036854775808) = false) (hnh : n ≤ 9223372036854775807) (HKK : Hid (cnt (slash s) s.size = K)) (h1 : n < 1) (HK0 : Hid (K = 0)) :
    Calls Try.prog 7 #[.string s, .int .i64 n] w fun r w' => r = .returned (.tuple #[.int .i64 0, .bool true]) ∧ w = w' := by
  have hkl : K ≤ s.size := by rw [← HKK.out]; exact cnt_le (slash s) s.size
  go_enter Try.func7, Try.ntmps7
  go_wp2
  go_loop [6, 7] (fun c i => ∃ t : Nat, t ≤ s.size ∧ i = .int .i64 t ∧ c = .int .i64 (cnt (slash s) t)) (fun _ i => s.size - (intOf i).toNat)
  case atStart => exact ⟨0, Nat.zero_le _, rfl, rfl⟩
  case round =>
    obtain ⟨t, ht, rfl, rfl⟩ := hrel
    have hct := cnt_le (slash s) t
    by_cases hlt : t < s.size
    · have hat := slash_at s t hlt
      cases hsl : slash s t
      · have HC : Hid (cnt (slash s) (t + 1) = cnt (slash s) t) := cnt_succ_neg (slash s) hsl
        rw [hsl] at hat
        clear hsl
        go_wp2
        go_round
        case rel => exact ⟨t + 1, by omega, by go_num, by rw [HC.out]⟩
        case measure => simp [intOf]; omega
      · have HC : Hid (cnt (slash s) (t + 1) = cnt (slash s) t + 1) := cnt_succ_pos (slash s) hsl
        rw [hsl] at hat
        clear hsl
        go_wp2
        go_round
        case rel => exact ⟨t + 1, by omega, by go_num, by rw [HC.out]; go_num⟩
        case measure => simp [intOf]; omega
    · have hK : Hid (cnt (slash s) t = K) := by show _ = _; rw [← HKK.out]; congr 1; omega
      rw [hK.out]
      clear hct hK
      rw [HK0.out]
      go_wp2
      go_ret2
      exact ⟨rfl, rfl⟩

set_option maxHeartbeats 800000 in
theorem model_more0 (s : ByteArray) (n : Int) (K : Nat) (i0 : Nat) (w : World) (hs : s.size ≤ 1048576) (hn : (n == -9223372036854775808) = false) (hnh : n ≤ 9223372036854775807) (HKK : Hid (cnt (slash s) s.size = K)) (h1 : n < 1) (hk : 0 < K) (hi0 : i0 < s.size) (HP : Hid (slash s i0 = true)) (HI : Hid ((cnt (slash s) (i0 + 1) : Int) = (K : Int))) :
    Calls Try.prog 7 #[.string s, .int .i64 n] w fun r w' => r = .returned (.tuple #[.int .i64 ((i0 : Int) + 1), .bool true]) ∧ w = w' := by
  have hkl : K ≤ s.size := by rw [← HKK.out]; exact cnt_le (slash s) s.size
  go_enter Try.func7, Try.ntmps7
  go_wp2
  go_loop [6, 7] (fun c i => ∃ t : Nat, t ≤ s.size ∧ i = .int .i64 t ∧ c = .int .i64 (cnt (slash s) t)) (fun _ i => s.size - (intOf i).toNat)
  case atStart => exact ⟨0, Nat.zero_le _, rfl, rfl⟩
  case round =>
    obtain ⟨t, ht, rfl, rfl⟩ := hrel
    have hct := cnt_le (slash s) t
    by_cases hlt : t < s.size
    · have hat := slash_at s t hlt
      cases hsl : slash s t
      · have HC : Hid (cnt (slash s) (t + 1) = cnt (slash s) t) := cnt_succ_neg (slash s) hsl
        rw [hsl] at hat
        clear hsl
        go_wp2
        go_round
        case rel => exact ⟨t + 1, by omega, by go_num, by rw [HC.out]⟩
        case measure => simp [intOf]; omega
      · have HC : Hid (cnt (slash s) (t + 1) = cnt (slash s) t + 1) := cnt_succ_pos (slash s) hsl
        rw [hsl] at hat
        clear hsl
        go_wp2
        go_round
        case rel => exact ⟨t + 1, by omega, by go_num, by rw [HC.out]; go_num⟩
        case measure => simp [intOf]; omega
    · have hK : Hid (cnt (slash s) t = K) := by show _ = _; rw [← HKK.out]; congr 1; omega
      rw [hK.out]
      clear hct hK
      have hb0 : ((K : Int) == 0) = false := by simp; omega
      go_wp2
      go_loop [10, 11] (fun c i => ∃ q : Nat, q ≤ i0 ∧ i = .int .i64 q ∧ c = .int .i64 (cnt (slash s) q)) (fun _ i => i0 + 1 - (intOf i).toNat)
      case atStart => exact ⟨0, Nat.zero_le _, rfl, rfl⟩
      case round =>
        obtain ⟨q, hq, rfl, rfl⟩ := hrel
        have hcq := cnt_le (slash s) q
        by_cases hqi : q < i0
        · have hat := slash_at s q (by omega)
          cases hsl : slash s q
          · have HC : Hid (cnt (slash s) (q + 1) = cnt (slash s) q) := cnt_succ_neg (slash s) hsl
            rw [hsl] at hat
            clear hsl
            go_wp2
            go_round
            case rel => exact ⟨q + 1, by omega, by go_num, by rw [HC.out]⟩
            case measure => simp [intOf]; omega
          · have HC : Hid (cnt (slash s) (q + 1) = cnt (slash s) q + 1) := cnt_succ_pos (slash s) hsl
            have hnb : (((cnt (slash s) q : Nat) : Int) + 1 == (K : Int)) = false := by
              have h1 := cnt_lt_of (slash s) hqi HP.out
              have h2 := HC.out
              have h3 := HI.out
              simp
              omega
            rw [hsl] at hat
            clear hsl
            go_wp2
            go_round
            case rel => exact ⟨q + 1, by omega, by go_num, by rw [HC.out]; go_num⟩
            case measure => simp [intOf]; omega
        · have hqe : q = i0 := by omega
          have hsq : slash s q = true := by rw [hqe]; exact HP.out
          have hat := slash_at s q (by omega)
          rw [hsq] at hat
          clear hsq
          have hyb : (((cnt (slash s) q : Nat) : Int) + 1 == (K : Int)) = true := by
            have h2 := cnt_succ_pos (slash s) (show slash s q = true by rw [hqe]; exact HP.out)
            have h3 := HI.out
            rw [hqe] at h2
            rw [hqe]
            simp
            omega
          have HQ : Hid (q = i0) := hqe
          clear hqe
          go_wp2
          go_ret2
          exact ⟨by rw [← HQ.out]; rfl, rfl⟩

end Go.Proofs.Qxb6601456a
