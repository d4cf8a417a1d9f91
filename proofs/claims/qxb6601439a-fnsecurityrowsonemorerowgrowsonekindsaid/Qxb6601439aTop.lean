/-
  FnSecurityRowsGivesTheTopOffers (3): the walks: where the law answers at once; where no row is left over; where no kind has weight.
-/
import Derived.Test.Qxb6601439aSec
namespace Go.Proofs.Qxb6601439a
open Go.RowKit Go.Deep Plain
set_option linter.unusedVariables false
set_option maxRecDepth 100000

theorem leastSumS (a : Option Addr) (len cap : Nat) (ws : List Int) (S : Int) (w : World) (hm : len ≤ 4096) (hA : WsAt w a len ws) (h0 : ∀ i, 0 ≤ at0 ws i) (h1 : ∀ i, at0 ws i ≤ 1048576) (hS : Hid (sumTo (fun i => least (at0 ws i)) len = S)) :
    Calls Try.prog 7 #[.slice a len cap] w fun e w' => e = .returned (.int .i64 S) ∧ w = w' := by
  rw [← hS.out]
  exact leastSum a len cap ws w hm hA h0 h1

theorem top_long (a : Option Addr) (len cap : Nat) (n : Int) (w : World) (h : 4096 < len) (hm : len ≤ maxLen) : Calls Try.prog 3 #[.slice a len cap, .int .i64 n] w fun e w' => e = .returned (.bool true) ∧ Below w.heap.size w w' := by
  unfold maxLen at hm
  by_cases h2 : 1048576 < len
  · go_enter Try.func3, Try.ntmps3
    go_wp2
    go_ret
    exact ⟨rfl, Below.refl _ _⟩
  · go_enter Try.func3, Try.ntmps3
    go_wp2
    go_ret
    exact ⟨rfl, Below.refl _ _⟩

theorem top_outside (a : Option Addr) (len cap : Nat) (ws : List Int) (n : Int) (w : World) (hm : len ≤ 4096) (hA : WsAt w a len ws) (hd : domB ws len = false) : Calls Try.prog 3 #[.slice a len cap, .int .i64 n] w fun e w' => e = .returned (.bool true) ∧ Below w.heap.size w w' := by
  go_enter Try.func3, Try.ntmps3
  go_wp2_with (first
    | (go_at_call 5; go_in)
    | (go_at_call 6; refine (inDomain a len cap ws _ hm hA false hd).mono ?_; rintro e w' ⟨rfl, rfl⟩))
  go_ret
  exact ⟨rfl, Below.refl _ _⟩

theorem top_low (a : Option Addr) (len cap : Nat) (ws : List Int) (n : Int) (w : World) (hm : len ≤ 4096) (hA : WsAt w a len ws) (hd : domB ws len = true) (hn : n < -9223372036837998592) : Calls Try.prog 3 #[.slice a len cap, .int .i64 n] w fun e w' => e = .returned (.bool true) ∧ Below w.heap.size w w' := by
  go_enter Try.func3, Try.ntmps3
  go_wp2_with (first
    | (go_at_call 5; go_in)
    | (go_at_call 6; refine (inDomain a len cap ws _ hm hA true hd).mono ?_; rintro e w' ⟨rfl, rfl⟩))
  go_ret
  exact ⟨rfl, Below.refl _ _⟩

theorem top_much (a : Option Addr) (len cap : Nat) (ws : List Int) (n S : Int) (w : World) (hm : len ≤ 4096) (hA : WsAt w a len ws) (hd : domB ws len = true) (h0 : ∀ i, 0 ≤ at0 ws i) (h1 : ∀ i, at0 ws i ≤ 1048576) (HS : Hid (sumTo (fun i => least (at0 ws i)) len = S)) (hS0 : 0 ≤ S) (hS1 : S ≤ 10739712)
    (hn : -9223372036837998592 ≤ n) (hn1 : n ≤ 9223372036854775807) (hM : 65536 < n - S) : Calls Try.prog 3 #[.slice a len cap, .int .i64 n] w fun e w' => e = .returned (.bool true) ∧ Below w.heap.size w w' := by
  go_enter Try.func3, Try.ntmps3
  go_wp2_with (first
    | (go_at_call 5; go_in)
    | (go_at_call 6; refine (inDomain a len cap ws _ hm hA true hd).mono ?_; rintro e w' ⟨rfl, rfl⟩)
    | (go_at_call 7; refine (leastSumS a len cap ws S _ hm hA h0 h1 HS).mono ?_; rintro e w' ⟨rfl, rfl⟩))
  go_ret
  exact ⟨rfl, Below.refl _ _⟩

theorem top_none (a : Option Addr) (cap : Nat) (n : Int) (w : World) (hn0 : 0 < n) (hn1 : n ≤ 65536) : Calls Try.prog 3 #[.slice a 0 cap, .int .i64 n] w fun e w' => e = .returned (.bool true) ∧ Below w.heap.size w w' := by
  have hA : WsAt w a 0 [] := fun h => by omega
  go_enter Try.func3, Try.ntmps3
  go_wp2_with (first
    | (go_at_call 5; go_in)
    | (go_at_call 6; refine (inDomain a 0 cap [] _ (by omega) hA true rfl).mono ?_; rintro e w' ⟨rfl, rfl⟩)
    | (go_at_call 7; refine (leastSumS a 0 cap [] 0 _ (by omega) hA (fun i => by simp [at0]) (fun i => by simp [at0]) rfl).mono ?_; rintro e w' ⟨rfl, rfl⟩))
  go_ret
  exact ⟨rfl, Below.refl _ _⟩

/-- no weight, and no row asked for -/
theorem top_empty (a : Option Addr) (cap : Nat) (n : Int) (w : World) (HN : a = none → cap = 0) (hn : -9223372036837998592 ≤ n) (hn0 : n ≤ 0) : Calls Try.prog 3 #[.slice a 0 cap, .int .i64 n] w fun e w' => e = .returned (.bool true) ∧ Below w.heap.size w w' := by
  have hA : WsAt w a 0 [] := fun h => by omega
  go_enter Try.func3, Try.ntmps3
  go_wp2_with (first
    | (go_at_call 5; go_in)
    | (go_at_call 6; refine (inDomain a 0 cap [] _ (by omega) hA true rfl).mono ?_; rintro e w' ⟨rfl, rfl⟩)
    | (go_at_call 7; refine (leastSumS a 0 cap [] 0 _ (by omega) hA (fun i => by simp [at0]) (fun i => by simp [at0]) rfl).mono ?_; rintro e w' ⟨rfl, rfl⟩)
    | (go_at_call 8; refine (clone_any a 0 cap [] _ (by omega) (fun h => ⟨rfl, HN h⟩) hA).mono ?_; rintro e w1 ⟨a', c', rfl, hW, hb1⟩)
    | (go_at_call 9; refine (zsec a' 0 c' [] n 0 _ (by omega) rfl hW (fun i => by simp [at0]) (fun i => by simp [at0]) rfl hn (by omega) (by omega) (fun h => by omega)).mono ?_; rintro e w2 ⟨R, rfl, hR, hrow, hb2⟩))
  refine wp_loop_rounds 1 ?_
  rw [rounds_succ]
  go_wp2
  go_ret
  exact ⟨rfl, hb1.trans (hb2.mono hb1.size)⟩

set_option maxHeartbeats 1600000 in
/-- no row is left over -/
theorem top_few (a : Option Addr) (len cap : Nat) (ws : List Int) (n S : Int) (w : World) (hm : len ≤ 4096) (hlen0 : 0 < len) (hl : ws.length = len) (hnil : a = none → len = 0 ∧ cap = 0) (hA : WsAt w a len ws) (hd : domB ws len = true) (h0 : ∀ i, 0 ≤ at0 ws i) (h1 : ∀ i, at0 ws i ≤ 1048576)
    (HS : Hid (sumTo (fun i => least (at0 ws i)) len = S)) (hS0 : 0 ≤ S) (hS1 : S ≤ 10739712)
    (hn : -9223372036837998592 ≤ n) (hn1 : n ≤ 9223372036854775807) (hM : n - S ≤ 0) : Calls Try.prog 3 #[.slice a len cap, .int .i64 n] w fun e w' => e = .returned (.bool true) ∧ Below w.heap.size w w' := by
  have HL : Hid (ws.length = len) := hl
  clear hl
  have hgb : ((len : Int) == 0) = false := by simp; omega
  have hM0 : Hid ((n - S).toNat = 0) := by show (n - S).toNat = 0; omega
  go_enter Try.func3, Try.ntmps3
  go_wp2_with (first
    | (go_at_call 5; go_in)
    | (go_at_call 6; refine (inDomain a len cap ws _ hm hA true hd).mono ?_; rintro e w' ⟨rfl, rfl⟩)
    | (go_at_call 7; refine (leastSumS a len cap ws S _ hm hA h0 h1 HS).mono ?_; rintro e w' ⟨rfl, rfl⟩)
    | (go_at_call 8; refine (clone_any a len cap ws _ (by omega) hnil hA).mono ?_; rintro e w1 ⟨a', c', rfl, hW, hb1⟩)
    | (go_at_call 9; refine (zsec a' len c' ws n S _ hm HL.out hW h0 h1 HS.out hn hn1 (by omega) (fun h => by omega)).mono ?_; rintro e w2 ⟨R, rfl, hR, hrow, hb2⟩))
  obtain ⟨B, rfl, hrB⟩ := WsRow.below hW (Nat.le_refl _) hb2 hlen0
  have hbel := hb1.trans (hb2.mono hb1.size)
  rw [hM0.out] at hrow
  clear hW hb1 hb2 hA hd
  go_loopw [7] (fun i wx => ∃ k : Nat, k ≤ len ∧ i = .int .i64 k ∧ wx.rowIs R 3 len (fun j => .int .i64 (at0 (iter ws 0) j)) ∧ wx.rowIs B 2 len (fun j => .int .i64 (at0 ws j)) ∧ Below w.heap.size w wx) (fun i _ => len - (intOf i).toNat)
  case atStart => exact ⟨0, Nat.zero_le _, rfl, hrow, hrB, hbel⟩
  case round =>
    clear hrow hrB hbel
    obtain ⟨k, hk, rfl, hrow, hrB, hbel⟩ := hrel
    by_cases hlt : k < len
    · have hc1 := hrB.cell hlt
      have hc2 := hrow.cell hlt
      rw [show at0 (iter ws 0) k = least (at0 ws k) from leasts_at ws k] at hc2
      have a0 := h0 k
      have a1 := h1 k
      have hki : (k : Int) < (len : Int) := by omega
      go_wp2
      go_quiet ((go_at_call 10; exact Calls.quiet_of_same (leastRowsQ _ _ a0 a1)))
      go_wp2
      go_roundw
      case rel => exact ⟨k + 1, by omega, by go_num, hrow, hrB, drewN_below hbel⟩
      case measure => simp [intOf]; omega
    · go_wp2
      go_ret
      exact ⟨rfl, hbel⟩
end Go.Proofs.Qxb6601439a
