/-
  FnLastNamesFromMatchesForwardCount (3): the walk out of the contracts.
-/
import Derived.Test.Qxb6601456aModel
namespace Go.Proofs.Qxb6601456a
open Go.RowKit Plain
set_option linter.unusedVariables false

theorem law_of (s : ByteArray) (n st : Int) (ok : Bool) (w : World) (hs : s.size ≤ 1048576)
    (H9 : Hid (∀ w, Calls Try.prog 9 #[.string s, .int .i64 n] w fun r w' => r = .returned (.tuple #[.int .i64 st, .bool ok]) ∧ w = w'))
    (H7 : Hid (∀ w, Calls Try.prog 7 #[.string s, .int .i64 n] w fun r w' => r = .returned (.tuple #[.int .i64 st, .bool ok]) ∧ w = w')) :
    Calls Try.prog 3 #[.string s, .int .i64 n] w fun e w' => e = .returned (.bool true) ∧ w = w' := by
  go_enter Try.func3, Try.ntmps3
  go_wp2_with (first
    | (go_at_call 5; go_in)
    | (go_at_call 6; go_in)
    | (go_at_call 9; refine (H9.out _).mono ?_; rintro e w' ⟨rfl, rfl⟩)
    | (go_at_call 7; refine (H7.out _).mono ?_; rintro e w' ⟨rfl, rfl⟩))
  go_ret
  exact ⟨rfl, rfl⟩

theorem law_long (s : ByteArray) (n : Int) (w : World) (hs : 1048576 < s.size) (hm : s.size ≤ maxLen) : Calls Try.prog 3 #[.string s, .int .i64 n] w fun e w' => e = .returned (.bool true) ∧ w = w' := by
  unfold maxLen at hm
  go_enter Try.func3, Try.ntmps3
  go_wp2
  go_ret
  exact ⟨rfl, rfl⟩

/-- THE LAW, for every string and every int -/
theorem law (s : ByteArray) (n : Int) (w : World) (hm : s.size ≤ maxLen) (hn0 : -9223372036854775808 ≤ n) (hn1 : n ≤ 9223372036854775807) : Calls Try.prog 3 #[.string s, .int .i64 n] w fun e w' => e = .returned (.bool true) ∧ w = w' := by
  by_cases hs : 1048576 < s.size
  · exact law_long s n w hs hm
  have hs' : s.size ≤ 1048576 := by omega
  by_cases hmin : n = -9223372036854775808
  · subst hmin
    exact law_of s _ 0 false w hs' (fun w => last_least s w hs') (fun w => model_least s w)
  have hb : (n == -9223372036854775808) = false := by simpa using hmin
  obtain ⟨K, hK⟩ : ∃ K, cnt (slash s) s.size = K := ⟨_, rfl⟩
  by_cases h1 : n < 1
  · have c1 : n - 1 ≤ ((0 : Nat) : Int) := by omega
    by_cases hk : K = 0
    · exact law_of s n 0 true w hs' (fun w => last_all s 0 n (by omega) hn1 c1 (.inl rfl) w hs' (by show _ = _; omega)) (fun w => model_all0 s n K w hs' hb hn1 hK h1 hk)
    · obtain ⟨i0, a, b, c⟩ := exists_at (slash s) s.size K (by omega) (by omega)
      refine law_of s n ((i0 : Int) + 1) true w hs' (fun w => last_more s 0 n (by omega) hn1 c1 (.inl rfl) i0 w hs' (by show _ < _; omega) a b (by show _ = _; omega)) (fun w => model_more0 s n K i0 w hs' hb hn1 hK h1 (by omega) a b (by show _ = _; omega))
  · have c1 : n - 1 ≤ (((n - 1).toNat : Nat) : Int) := by omega
    have c2 : Hid ((n - 1).toNat = 0 ∨ (((n - 1).toNat : Nat) : Int) = n - 1) := .inr (by omega)
    by_cases k1 : (K : Int) + 1 < n
    · exact law_of s n 0 false w hs' (fun w => last_few s _ n (by omega) hn1 c1 c2 w hs' (by show _ < _; omega)) (fun w => model_few s n K w hs' hb hn1 hK (by omega) k1)
    · by_cases k2 : (K : Int) + 1 = n
      · exact law_of s n 0 true w hs' (fun w => last_all s _ n (by omega) hn1 c1 c2 w hs' (by show _ = _; omega)) (fun w => model_all s n K w hs' hb hn1 hK (by omega) (by omega) (by omega))
      · obtain ⟨i0, a, b, c⟩ := exists_at (slash s) s.size (K - (n - 1).toNat) (by omega) (by omega)
        exact law_of s n ((i0 : Int) + 1) true w hs' (fun w => last_more s _ n (by omega) hn1 c1 c2 i0 w hs' (by show _ < _; omega) a b (by show _ = _; omega)) (fun w => model_more s n K i0 w hs' hb hn1 hK (by omega) (by omega) a b (by show _ = _; omega))
end Go.Proofs.Qxb6601456a
