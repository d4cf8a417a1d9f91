/-
  FnSecurityRowsOneMoreRowGrowsOneKind (4): the walks.
-/
import Derived.Test.Qxb6601439aTop
namespace Go.Proofs.Qxb6601439a
open Go.RowKit Go.Deep Plain
set_option linter.unusedVariables false
set_option maxRecDepth 100000

theorem one_long (a : Option Addr) (len cap : Nat) (n : Int) (w : World) (h : 4096 < len) (hm : len ≤ maxLen) : Calls Try.prog 4 #[.slice a len cap, .int .i64 n] w fun e w' => e = .returned (.bool true) ∧ Below w.heap.size w w' := by
  unfold maxLen at hm
  by_cases h2 : 1048576 < len
  · go_enter Try.func4, Try.ntmps4
    go_wp2
    go_ret
    exact ⟨rfl, Below.refl _ _⟩
  · go_enter Try.func4, Try.ntmps4
    go_wp2
    go_ret
    exact ⟨rfl, Below.refl _ _⟩

theorem one_outside (a : Option Addr) (len cap : Nat) (ws : List Int) (n : Int) (w : World) (hm : len ≤ 4096) (hA : WsAt w a len ws) (hd : domB ws len = false) : Calls Try.prog 4 #[.slice a len cap, .int .i64 n] w fun e w' => e = .returned (.bool true) ∧ Below w.heap.size w w' := by
  go_enter Try.func4, Try.ntmps4
  go_wp2_with (first
    | (go_at_call 11; go_in)
    | (go_at_call 6; refine (inDomain a len cap ws _ hm hA false hd).mono ?_; rintro e w' ⟨rfl, rfl⟩))
  go_ret
  exact ⟨rfl, Below.refl _ _⟩

theorem one_low (a : Option Addr) (len cap : Nat) (ws : List Int) (n : Int) (w : World) (hm : len ≤ 4096) (hA : WsAt w a len ws) (hd : domB ws len = true) (hn : n < -9223372036837998592) : Calls Try.prog 4 #[.slice a len cap, .int .i64 n] w fun e w' => e = .returned (.bool true) ∧ Below w.heap.size w w' := by
  go_enter Try.func4, Try.ntmps4
  go_wp2_with (first
    | (go_at_call 11; go_in)
    | (go_at_call 6; refine (inDomain a len cap ws _ hm hA true hd).mono ?_; rintro e w' ⟨rfl, rfl⟩))
  go_ret
  exact ⟨rfl, Below.refl _ _⟩

theorem one_much (a : Option Addr) (len cap : Nat) (ws : List Int) (n S : Int) (w : World) (hm : len ≤ 4096) (hA : WsAt w a len ws) (hd : domB ws len = true) (h0 : ∀ i, 0 ≤ at0 ws i) (h1 : ∀ i, at0 ws i ≤ 1048576) (HS : Hid (sumTo (fun i => least (at0 ws i)) len = S)) (hS0 : 0 ≤ S) (hS1 : S ≤ 10739712)
    (hn : -9223372036837998592 ≤ n) (hn1 : n ≤ 9223372036854775807) (hM : 65536 ≤ n - S) : Calls Try.prog 4 #[.slice a len cap, .int .i64 n] w fun e w' => e = .returned (.bool true) ∧ Below w.heap.size w w' := by
  go_enter Try.func4, Try.ntmps4
  go_wp2_with (first
    | (go_at_call 11; go_in)
    | (go_at_call 6; refine (inDomain a len cap ws _ hm hA true hd).mono ?_; rintro e w' ⟨rfl, rfl⟩)
    | (go_at_call 7; refine (leastSumS a len cap ws S _ hm hA h0 h1 HS).mono ?_; rintro e w' ⟨rfl, rfl⟩))
  go_ret
  exact ⟨rfl, Below.refl _ _⟩

theorem one_none (a : Option Addr) (cap : Nat) (n : Int) (w : World) (hn0 : 0 ≤ n) (hn1 : n < 65536) : Calls Try.prog 4 #[.slice a 0 cap, .int .i64 n] w fun e w' => e = .returned (.bool true) ∧ Below w.heap.size w w' := by
  have hA : WsAt w a 0 [] := fun h => by omega
  go_enter Try.func4, Try.ntmps4
  go_wp2_with (first
    | (go_at_call 11; go_in)
    | (go_at_call 6; refine (inDomain a 0 cap [] _ (by omega) hA true rfl).mono ?_; rintro e w' ⟨rfl, rfl⟩)
    | (go_at_call 7; refine (leastSumS a 0 cap [] 0 _ (by omega) hA (fun i => by simp [at0]) (fun i => by simp [at0]) rfl).mono ?_; rintro e w' ⟨rfl, rfl⟩))
  go_ret
  exact ⟨rfl, Below.refl _ _⟩

/-- no weight, and no row asked for -/
theorem one_empty (a : Option Addr) (cap : Nat) (n : Int) (w : World) (HN : a = none → cap = 0) (hn : -9223372036837998592 ≤ n) (hn0 : n < 0) : Calls Try.prog 4 #[.slice a 0 cap, .int .i64 n] w fun e w' => e = .returned (.bool true) ∧ Below w.heap.size w w' := by
  have hA : WsAt w a 0 [] := fun h => by omega
  go_enter Try.func4, Try.ntmps4
  go_wp2_with (first
    | (go_at_call 11; go_in)
    | (go_at_call 6; refine (inDomain a 0 cap [] _ (by omega) hA true rfl).mono ?_; rintro e w' ⟨rfl, rfl⟩)
    | (go_at_call 7; refine (leastSumS a 0 cap [] 0 _ (by omega) hA (fun i => by simp [at0]) (fun i => by simp [at0]) rfl).mono ?_; rintro e w' ⟨rfl, rfl⟩)
    | (go_at_call 8; refine (clone_any a 0 cap [] _ (by omega) (fun h => ⟨rfl, HN h⟩) hA).mono ?_; rintro e w1 ⟨a', c', rfl, hW, hb1⟩))
  refine (zsec a' 0 c' [] n 0 _ (by omega) rfl hW (fun i => by simp [at0]) (fun i => by simp [at0]) rfl hn (by omega) (by omega) (fun h => by omega)).mono ?_
  rintro e w2 ⟨R, rfl, hR, hrow, hb2⟩
  go_wp2_with fail
  refine (zsec a' 0 c' [] (n + 1) 0 _ (by omega) rfl (WsRow.below hW (Nat.le_refl _) hb2) (fun i => by simp [at0]) (fun i => by simp [at0]) rfl (by omega) (by omega) (by omega) (fun h => by omega)).mono ?_
  rintro e w3 ⟨R', rfl, hR', hrow', hb3⟩
  go_wp2
  refine wp_loop_rounds 1 ?_
  rw [rounds_succ]
  go_wp2
  go_ret
  have hb12 := hb1.trans (hb2.mono hb1.size)
  exact ⟨rfl, hb12.trans (hb3.mono hb12.size)⟩

set_option maxHeartbeats 1600000 in
/-- one row more is still within the fewest -/
theorem one_few (a : Option Addr) (len cap : Nat) (ws rs rb : List Int) (n S : Int) (w : World) (hm : len ≤ 4096) (hlen0 : 0 < len) (hl : ws.length = len) (hnil : a = none → len = 0 ∧ cap = 0) (hA : WsAt w a len ws) (hd : domB ws len = true) (h0 : ∀ i, 0 ≤ at0 ws i) (h1 : ∀ i, at0 ws i ≤ 1048576)
    (HS : Hid (sumTo (fun i => least (at0 ws i)) len = S)) (hS0 : 0 ≤ S) (hS1 : S ≤ 10739712)
    (hn : -9223372036837998592 ≤ n) (hn1 : n ≤ 9223372036854775807) (hM1 : n - S < 65536) (HR : Hid (iter ws (n - S).toNat = rs)) (HB : Hid (iter ws (n + 1 - S).toNat = rb)) (hM : n - S + 1 ≤ 0) (HE : Hid (rb = rs)) : Calls Try.prog 4 #[.slice a len cap, .int .i64 n] w fun e w' => e = .returned (.bool true) ∧ Below w.heap.size w w' := by
  have HL : Hid (ws.length = len) := hl
  clear hl
  have hgb : ((len : Int) == 0) = false := by simp; omega
  go_enter Try.func4, Try.ntmps4
  go_wp2_with (first
    | (go_at_call 11; go_in)
    | (go_at_call 6; refine (inDomain a len cap ws _ hm hA true hd).mono ?_; rintro e w' ⟨rfl, rfl⟩)
    | (go_at_call 7; refine (leastSumS a len cap ws S _ hm hA h0 h1 HS).mono ?_; rintro e w' ⟨rfl, rfl⟩)
    | (go_at_call 8; refine (clone_any a len cap ws _ (by omega) hnil hA).mono ?_; rintro e w1 ⟨a', c', rfl, hW, hb1⟩))
  refine (zsec a' len c' ws n S _ hm HL.out hW h0 h1 HS.out hn hn1 (by omega) (fun h => by omega)).mono ?_
  rintro e w2 ⟨R, rfl, hR, hrow, hb2⟩
  go_wp2_with fail
  refine (zsec a' len c' ws (n + 1) S _ hm HL.out (WsRow.below hW (Nat.le_refl _) hb2) h0 h1 HS.out (by omega) (by omega) (by omega) (fun h => by omega)).mono ?_
  rintro e w3 ⟨R', rfl, hR', hrow', hb3⟩
  have hrow2 := hrow.of_block (hb3.block R hrow.lt)
  have hb12 := hb1.trans (hb2.mono hb1.size)
  have hbel := hb12.trans (hb3.mono hb12.size)
  rw [HR.out] at hrow2
  rw [HB.out] at hrow'
  clear hW hb1 hb2 hb3 hb12 hA hd hrow
  rw [HE.out] at hrow'
  go_wp2
  go_loopw [8] (fun i wx => ∃ k : Nat, k ≤ len ∧ i = .int .i64 k ∧ wx.rowIs R 3 len (fun j => .int .i64 (at0 rs j)) ∧ wx.rowIs R' 3 len (fun j => .int .i64 (at0 rs j)) ∧ Below w.heap.size w wx) (fun i _ => len - (intOf i).toNat)
  case atStart => exact ⟨0, Nat.zero_le _, rfl, hrow2, hrow', hbel⟩
  case round =>
    clear hrow2 hrow' hbel
    obtain ⟨k, hk, rfl, hrow2, hrow', hbel⟩ := hrel
    by_cases hlt : k < len
    · have hc1 := hrow2.cell hlt
      have hc2 := hrow'.cell hlt
      have hki : (k : Int) < (len : Int) := by omega
      go_wp2
      go_quiet (fail)
      go_wp2
      go_roundw
      case rel => exact ⟨k + 1, by omega, by go_num, hrow2, hrow', drewN_below hbel⟩
      case measure => simp [intOf]; omega
    · go_wp2
      go_ret
      exact ⟨rfl, hbel⟩

/-- how many of the first k kinds have grown, where kind p alone grows -/
def gr (p k : Nat) : Int := if p < k then 1 else 0
theorem gr_bd (p k : Nat) : 0 ≤ gr p k ∧ gr p k ≤ 1 := by unfold gr; split <;> omega
theorem gr_here (p : Nat) : gr p p + 1 = gr p (p + 1) := by unfold gr; rw [if_neg (by omega), if_pos (by omega)]; rfl
theorem gr_other (p k : Nat) (h : k ≠ p) : gr p k = gr p (k + 1) := by
  unfold gr
  by_cases e : p < k
  · rw [if_pos e, if_pos (by omega)]
  · rw [if_neg e, if_neg (by omega)]
theorem gr_end (p k : Nat) (h : p < k) : gr p k = 1 := by unfold gr; rw [if_pos h]

set_option maxHeartbeats 1600000 in
/-- beyond the fewest just one kind grows, by one row -/
theorem one_more (a : Option Addr) (len cap : Nat) (ws rs rb : List Int) (n S : Int) (w : World) (hm : len ≤ 4096) (hlen0 : 0 < len) (hl : ws.length = len) (hnil : a = none → len = 0 ∧ cap = 0) (hA : WsAt w a len ws) (hd : domB ws len = true) (h0 : ∀ i, 0 ≤ at0 ws i) (h1 : ∀ i, at0 ws i ≤ 1048576)
    (HS : Hid (sumTo (fun i => least (at0 ws i)) len = S)) (hS0 : 0 ≤ S) (hS1 : S ≤ 10739712)
    (hn : -9223372036837998592 ≤ n) (hn1 : n ≤ 9223372036854775807) (hM1 : n - S < 65536) (HR : Hid (iter ws (n - S).toNat = rs)) (HB : Hid (iter ws (n + 1 - S).toNat = rb)) (hM : 0 ≤ n - S) (p : Nat) (hp : p < len) (hbd : ∀ i, 0 ≤ at0 rs i ∧ at0 rs i ≤ 131072) (HP : Hid (at0 rb p = at0 rs p + 1)) (HO : Hid (∀ k, k ≠ p → at0 rb k = at0 rs k)) : Calls Try.prog 4 #[.slice a len cap, .int .i64 n] w fun e w' => e = .returned (.bool true) ∧ Below w.heap.size w w' := by
  have HL : Hid (ws.length = len) := hl
  clear hl
  have hgb : ((len : Int) == 0) = false := by simp; omega
  go_enter Try.func4, Try.ntmps4
  go_wp2_with (first
    | (go_at_call 11; go_in)
    | (go_at_call 6; refine (inDomain a len cap ws _ hm hA true hd).mono ?_; rintro e w' ⟨rfl, rfl⟩)
    | (go_at_call 7; refine (leastSumS a len cap ws S _ hm hA h0 h1 HS).mono ?_; rintro e w' ⟨rfl, rfl⟩)
    | (go_at_call 8; refine (clone_any a len cap ws _ (by omega) hnil hA).mono ?_; rintro e w1 ⟨a', c', rfl, hW, hb1⟩))
  refine (zsec a' len c' ws n S _ hm HL.out hW h0 h1 HS.out hn hn1 (by omega) (fun h => by omega)).mono ?_
  rintro e w2 ⟨R, rfl, hR, hrow, hb2⟩
  go_wp2_with fail
  refine (zsec a' len c' ws (n + 1) S _ hm HL.out (WsRow.below hW (Nat.le_refl _) hb2) h0 h1 HS.out (by omega) (by omega) (by omega) (fun h => by omega)).mono ?_
  rintro e w3 ⟨R', rfl, hR', hrow', hb3⟩
  have hrow2 := hrow.of_block (hb3.block R hrow.lt)
  have hb12 := hb1.trans (hb2.mono hb1.size)
  have hbel := hb12.trans (hb3.mono hb12.size)
  rw [HR.out] at hrow2
  rw [HB.out] at hrow'
  clear hW hb1 hb2 hb3 hb12 hA hd hrow
  go_wp2
  go_loopw [9, 10] (fun g i wx => ∃ k : Nat, k ≤ len ∧ i = .int .i64 k ∧ g = .int .i64 (gr p k) ∧ wx.rowIs R 3 len (fun j => .int .i64 (at0 rs j)) ∧ wx.rowIs R' 3 len (fun j => .int .i64 (at0 rb j)) ∧ Below w.heap.size w wx) (fun _ i _ => len - (intOf i).toNat)
  case atStart => exact ⟨0, Nat.zero_le _, rfl, rfl, hrow2, hrow', hbel⟩
  case round =>
    clear hrow2 hrow' hbel
    obtain ⟨k, hk, rfl, rfl, hrow2, hrow', hbel⟩ := hrel
    by_cases hlt : k < len
    · have hc1 := hrow2.cell hlt
      have hc2 := hrow'.cell hlt
      have hki : (k : Int) < (len : Int) := by omega
      have hgb := gr_bd p k
      have hb := hbd k
      by_cases hkp : k = p
      · have hgh : Hid (gr p k + 1 = gr p (k + 1)) := by show _ = _; rw [hkp]; exact gr_here p
        rw [show at0 rb k = at0 rs k + 1 by rw [hkp]; exact HP.out] at hc2
        have hne : (at0 rs k + 1 == at0 rs k) = false := by simp; omega
        clear hkp
        go_wp2
        go_quiet (fail)
        go_wp2
        go_quiet (fail)
        go_wp2
        go_roundw
        case rel => exact ⟨k + 1, by omega, by go_num, by rw [hgh.out], hrow2, hrow', drewN_below hbel⟩
        case measure => simp [intOf]; omega
      · have hgh : Hid (gr p k = gr p (k + 1)) := gr_other p k hkp
        rw [HO.out k hkp] at hc2
        clear hkp
        go_wp2
        go_quiet (fail)
        go_wp2
        go_roundw
        case rel => exact ⟨k + 1, by omega, by go_num, by rw [hgh.out], hrow2, hrow', drewN_below hbel⟩
        case measure => simp [intOf]; omega
    · obtain rfl : k = len := by omega
      rw [gr_end p k hp]
      go_wp2
      go_ret
      exact ⟨rfl, hbel⟩
end Go.Proofs.Qxb6601439a
