/-
  ZZScanNumber (9) and FnScanNumberMatchesAutomaton (3): the walks.
-/
import Derived.Test.Qxb6601484aNumber
import Derived.Deep.QuietTactic
import Derived.BigQuiet
namespace Go.Proofs.Qxb6601484a
open Go.RowKit Go.Deep Num
set_option linter.unusedVariables false

set_option maxHeartbeats 1600000 in
theorem zscan (B len cap i : Nat) (lone : Bool) (z : Nat → Int) (w : World) (hm : len ≤ 1048576) (hrow : Bytes w B len z) (hz : ∀ j, 0 ≤ z j ∧ z j ≤ 255) (hi : i < len) :
    Calls Try.prog 9 #[.slice (some ⟨B, 0, none⟩) len cap, .int .i64 i, .bool lone] w fun e w' => e = .returned (.tuple #[.int .i64 ((num z len i).getD i : Nat), .bool lone, .bool (num z len i).isSome]) ∧ Below w.heap.size w w' := by
  have hBl : B < w.heap.size := World.rowIs.lt hrow
  obtain ⟨nx, HX⟩ : ∃ x, Hid (num z len i = x) := ⟨_, rfl⟩
  rw [HX.out]
  go_enter Try.func9, Try.ntmps9
  go_wp2_with fail
  refine (number_any w.heap.size B len cap i lone z _ hm (by simp) (by simp) (by simp) (by simp) (World.rowIs.alloc hrow _) hz hi hBl (by simp)).mono ?_
  rintro e w' ⟨rfl, k1, k2, hb⟩
  rw [HX.out] at k1 ⊢
  have hbel := ((Below.refl _ _).alloc (Nat.le_refl _) _).trans hb
  clear hb hrow
  go_wp2
  go_quiet (fail)
  go_wp2
  go_ret3
  exact ⟨rfl, hbel.trans ⟨rfl, rfl, rfl, Nat.le_refl _, fun _ _ => rfl⟩⟩

/-- outside the law's domain -/
theorem scan_early (a : Option Addr) (len cap : Nat) (i : Int) (lone : Bool) (w : World) (hm : len ≤ maxLen) (h : ¬ (len ≤ 1048576 ∧ 0 ≤ i ∧ i < len)) :
    Calls Try.prog 3 #[.slice a len cap, .int .i64 i, .bool lone] w fun e w' => e = .returned (.bool true) ∧ Below w.heap.size w w' := by
  unfold maxLen at hm
  by_cases c1 : 1048576 < len
  · clear h; go_enter Try.func3, Try.ntmps3; go_wp2; go_ret; exact ⟨rfl, Below.refl _ _⟩
  by_cases c2 : i < 0
  · have hd : decide (i < 0) = true := by simpa using c2
    clear h; go_enter Try.func3, Try.ntmps3; go_wp2; go_ret; exact ⟨rfl, Below.refl _ _⟩
  have hd : decide (i < 0) = false := by simpa using c2
  have c3 : (len : Int) ≤ i := by omega
  clear h
  go_enter Try.func3, Try.ntmps3
  go_wp2
  go_ret
  exact ⟨rfl, Below.refl _ _⟩

set_option maxHeartbeats 1600000 in
/-- inside it -/
theorem scan_law (x : Addr) (len cap i : Nat) (lone : Bool) (zs : List Int) (w : World) (hm : len ≤ 1048576) (hA : BsAt w (some x) len cap zs) (hz : ∀ j, 0 ≤ at0 zs j ∧ at0 zs j ≤ 255) (hi : i < len) :
    Calls Try.prog 3 #[.slice (some x) len cap, .int .i64 i, .bool lone] w fun e w' => e = .returned (.bool true) ∧ Below w.heap.size w w' := by
  have hd : decide ((i : Int) < 0) = false := by simp
  have hnum := num_law (at0 zs) len i hi
  obtain ⟨e, s, HR⟩ : ∃ e s, Hid (R (at0 zs) len 0 i = (e, s)) := ⟨_, _, rfl⟩
  rw [HR.out] at hnum
  unfold out at hnum
  cases hacc : acc s
  · have HN : Hid (num (at0 zs) len i = none) := by show _ = _; rw [hnum]; simp [hacc]
    have HA : Hid (acc s = false) := hacc
    clear hnum hacc
    go_enter Try.func3, Try.ntmps3
    go_wp2_with (first | (go_at_call 7; go_in))
    refine (clone_some x len cap zs _ hm hA).mono ?_
    rintro e1 w1 ⟨B, rfl, hrow, hb1⟩
    go_wp2_with fail
    refine (zscan B len len i lone (at0 zs) _ hm hrow hz hi).mono ?_
    rintro e2 w2 ⟨rfl, hb2⟩
    rw [HN.out]
    have hrow2 : Bytes w2 B len (at0 zs) := hrow.of_block (hb2.block B hrow.lt)
    go_wp2_with fail
    refine (model_any B len len i (at0 zs) _ hm hrow2 hz (by omega)).mono ?_
    rintro e3 w3 ⟨rfl, rfl⟩
    rw [HR.out]
    show _
    simp only [HA.out]
    go_wp2
    go_ret
    exact ⟨rfl, hb1.trans (hb2.mono hb1.size)⟩
  · have HN : Hid (num (at0 zs) len i = some e) := by show _ = _; rw [hnum]; simp [hacc]
    have HA : Hid (acc s = true) := hacc
    clear hnum hacc
    go_enter Try.func3, Try.ntmps3
    go_wp2_with (first | (go_at_call 7; go_in))
    refine (clone_some x len cap zs _ hm hA).mono ?_
    rintro e1 w1 ⟨B, rfl, hrow, hb1⟩
    go_wp2_with fail
    refine (zscan B len len i lone (at0 zs) _ hm hrow hz hi).mono ?_
    rintro e2 w2 ⟨rfl, hb2⟩
    rw [HN.out]
    have hrow2 : Bytes w2 B len (at0 zs) := hrow.of_block (hb2.block B hrow.lt)
    go_wp2_with fail
    refine (model_any B len len i (at0 zs) _ hm hrow2 hz (by omega)).mono ?_
    rintro e3 w3 ⟨rfl, rfl⟩
    rw [HR.out]
    simp only [HA.out]
    go_wp2
    go_ret
    exact ⟨rfl, hb1.trans (hb2.mono hb1.size)⟩
end Go.Proofs.Qxb6601484a
