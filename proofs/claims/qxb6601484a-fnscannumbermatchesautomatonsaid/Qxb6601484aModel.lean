/-
  numberStep (17), numberModel (10): their contracts.
-/
import Derived.Test.Qxb6601484aClone
import Derived.Test.Qxb6601484aNumPlain
namespace Go.Proofs.Qxb6601484a
open Go.RowKit Go.Deep Num
set_option linter.unusedVariables false
set_option linter.unusedSimpArgs false

theorem step_0 (c : Int) (w : World) (h0 : 0 ≤ c) (h1 : c ≤ 255) : Calls Try.prog 17 #[.int .i64 0, .int .u8 c] w fun e w' => e = .returned (.int .i64 (nstep 0 c)) ∧ w = w' := by
  obtain ⟨g1, hg1⟩ : ∃ g, decide (48 ≤ c) = g := ⟨_, rfl⟩
  cases g1
  all_goals
    go_enter Try.func17, Try.ntmps17
    go_wp2
    all_goals (go_ret; exact ⟨by simp [nstep, dgt, isE, isS, *], rfl⟩)

theorem step_1 (c : Int) (w : World) (h0 : 0 ≤ c) (h1 : c ≤ 255) : Calls Try.prog 17 #[.int .i64 1, .int .u8 c] w fun e w' => e = .returned (.int .i64 (nstep 1 c)) ∧ w = w' := by
  obtain ⟨g1, hg1⟩ : ∃ g, decide (48 ≤ c) = g := ⟨_, rfl⟩
  cases g1
  all_goals
    go_enter Try.func17, Try.ntmps17
    go_wp2
    all_goals (go_ret; exact ⟨by simp [nstep, dgt, isE, isS, *], rfl⟩)

theorem step_2 (c : Int) (w : World) (h0 : 0 ≤ c) (h1 : c ≤ 255) : Calls Try.prog 17 #[.int .i64 2, .int .u8 c] w fun e w' => e = .returned (.int .i64 (nstep 2 c)) ∧ w = w' := by
  obtain ⟨g1, hg1⟩ : ∃ g, decide (48 ≤ c) = g := ⟨_, rfl⟩
  obtain ⟨g2, hg2⟩ : ∃ g, (c == 101) = g := ⟨_, rfl⟩
  cases g1 <;> cases g2
  all_goals
    go_enter Try.func17, Try.ntmps17
    go_wp2
    all_goals (go_ret; exact ⟨by simp [nstep, dgt, isE, isS, *], rfl⟩)

theorem step_3 (c : Int) (w : World) (h0 : 0 ≤ c) (h1 : c ≤ 255) : Calls Try.prog 17 #[.int .i64 3, .int .u8 c] w fun e w' => e = .returned (.int .i64 (nstep 3 c)) ∧ w = w' := by
  obtain ⟨g1, hg1⟩ : ∃ g, decide (48 ≤ c) = g := ⟨_, rfl⟩
  obtain ⟨g2, hg2⟩ : ∃ g, (c == 101) = g := ⟨_, rfl⟩
  cases g1 <;> cases g2
  all_goals
    go_enter Try.func17, Try.ntmps17
    go_wp2
    all_goals (go_ret; exact ⟨by simp [nstep, dgt, isE, isS, *], rfl⟩)

theorem step_4 (c : Int) (w : World) (h0 : 0 ≤ c) (h1 : c ≤ 255) : Calls Try.prog 17 #[.int .i64 4, .int .u8 c] w fun e w' => e = .returned (.int .i64 (nstep 4 c)) ∧ w = w' := by
  obtain ⟨g1, hg1⟩ : ∃ g, decide (48 ≤ c) = g := ⟨_, rfl⟩
  cases g1
  all_goals
    go_enter Try.func17, Try.ntmps17
    go_wp2
    all_goals (go_ret; exact ⟨by simp [nstep, dgt, isE, isS, *], rfl⟩)

theorem step_5 (c : Int) (w : World) (h0 : 0 ≤ c) (h1 : c ≤ 255) : Calls Try.prog 17 #[.int .i64 5, .int .u8 c] w fun e w' => e = .returned (.int .i64 (nstep 5 c)) ∧ w = w' := by
  obtain ⟨g1, hg1⟩ : ∃ g, decide (48 ≤ c) = g := ⟨_, rfl⟩
  obtain ⟨g2, hg2⟩ : ∃ g, (c == 101) = g := ⟨_, rfl⟩
  cases g1 <;> cases g2
  all_goals
    go_enter Try.func17, Try.ntmps17
    go_wp2
    all_goals (go_ret; exact ⟨by simp [nstep, dgt, isE, isS, *], rfl⟩)

theorem step_6 (c : Int) (w : World) (h0 : 0 ≤ c) (h1 : c ≤ 255) : Calls Try.prog 17 #[.int .i64 6, .int .u8 c] w fun e w' => e = .returned (.int .i64 (nstep 6 c)) ∧ w = w' := by
  obtain ⟨g1, hg1⟩ : ∃ g, decide (48 ≤ c) = g := ⟨_, rfl⟩
  obtain ⟨g2, hg2⟩ : ∃ g, (c == 43) = g := ⟨_, rfl⟩
  cases g1 <;> cases g2
  all_goals
    go_enter Try.func17, Try.ntmps17
    go_wp2
    all_goals (go_ret; exact ⟨by simp [nstep, dgt, isE, isS, *], rfl⟩)

theorem step_7 (c : Int) (w : World) (h0 : 0 ≤ c) (h1 : c ≤ 255) : Calls Try.prog 17 #[.int .i64 7, .int .u8 c] w fun e w' => e = .returned (.int .i64 (nstep 7 c)) ∧ w = w' := by
  obtain ⟨g1, hg1⟩ : ∃ g, decide (48 ≤ c) = g := ⟨_, rfl⟩
  cases g1
  all_goals
    go_enter Try.func17, Try.ntmps17
    go_wp2
    all_goals (go_ret; exact ⟨by simp [nstep, dgt, isE, isS, *], rfl⟩)

theorem step_8 (c : Int) (w : World) (h0 : 0 ≤ c) (h1 : c ≤ 255) : Calls Try.prog 17 #[.int .i64 8, .int .u8 c] w fun e w' => e = .returned (.int .i64 (nstep 8 c)) ∧ w = w' := by
  obtain ⟨g1, hg1⟩ : ∃ g, decide (48 ≤ c) = g := ⟨_, rfl⟩
  cases g1
  all_goals
    go_enter Try.func17, Try.ntmps17
    go_wp2
    all_goals (go_ret; exact ⟨by simp [nstep, dgt, isE, isS, *], rfl⟩)

theorem step_any (s : Nat) (c : Int) (w : World) (hs : s < 9) (h0 : 0 ≤ c) (h1 : c ≤ 255) : Calls Try.prog 17 #[.int .i64 s, .int .u8 c] w fun e w' => e = .returned (.int .i64 (nstep s c)) ∧ w = w' := by
  match s, hs with
  | 0, _ => exact step_0 c w h0 h1
  | 1, _ => exact step_1 c w h0 h1
  | 2, _ => exact step_2 c w h0 h1
  | 3, _ => exact step_3 c w h0 h1
  | 4, _ => exact step_4 c w h0 h1
  | 5, _ => exact step_5 c w h0 h1
  | 6, _ => exact step_6 c w h0 h1
  | 7, _ => exact step_7 c w h0 h1
  | 8, _ => exact step_8 c w h0 h1

/-- the bytes as a row of the law's own -/
def Bytes (w : World) (B len : Nat) (z : Nat → Int) : Prop := w.rowIs B 5 len (fun j => .int .u8 (z j))

set_option maxHeartbeats 1600000 in
theorem model_any (B len cap i : Nat) (z : Nat → Int) (w : World) (hm : len ≤ 1048576) (hrow : Bytes w B len z) (hz : ∀ j, 0 ≤ z j ∧ z j ≤ 255) (hi : i ≤ len) :
    Calls Try.prog 10 #[.slice (some ⟨B, 0, none⟩) len cap, .int .i64 i] w fun e w' => e = .returned (.tuple #[.int .i64 ((R z len 0 i).1 : Nat), .bool (acc (R z len 0 i).2)]) ∧ w = w' := by
  go_enter Try.func10, Try.ntmps10
  go_wp2
  go_loop [6, 7] (fun st j => ∃ s q : Nat, q ≤ len ∧ s < 9 ∧ st = .int .i64 s ∧ j = .int .i64 q ∧ Hid (R z len 0 i = R z len s q)) (fun _ j => len - (intOf j).toNat)
  case atStart => exact ⟨0, i, hi, by omega, rfl, rfl, rfl⟩
  case round =>
    obtain ⟨s, q, hq, hs, rfl, rfl, hR⟩ := hrel
    by_cases hlt : q < len
    · have hcq := World.rowIs.cell hrow hlt
      have hzq := hz q
      have nb := nstep_bd s (z q)
      by_cases hneg : nstep s (z q) < 0
      · have HE : Hid (R z len 0 i = (q, s)) := by show _ = _; rw [hR.out]; exact R_stop z len s q hneg
        clear hR
        match s, hs with
        | 0, hs =>
          go_wp2_with (first | (go_at_call 17; refine (step_any 0 (z q) _ hs hzq.1 hzq.2).mono ?_; rintro e w' ⟨rfl, rfl⟩))
          go_ret2
          exact ⟨by rw [HE.out]; rfl, rfl⟩
        | 1, hs =>
          go_wp2_with (first | (go_at_call 17; refine (step_any 1 (z q) _ hs hzq.1 hzq.2).mono ?_; rintro e w' ⟨rfl, rfl⟩))
          go_ret2
          exact ⟨by rw [HE.out]; rfl, rfl⟩
        | 2, hs =>
          go_wp2_with (first | (go_at_call 17; refine (step_any 2 (z q) _ hs hzq.1 hzq.2).mono ?_; rintro e w' ⟨rfl, rfl⟩))
          go_ret2
          exact ⟨by rw [HE.out]; rfl, rfl⟩
        | 3, hs =>
          go_wp2_with (first | (go_at_call 17; refine (step_any 3 (z q) _ hs hzq.1 hzq.2).mono ?_; rintro e w' ⟨rfl, rfl⟩))
          go_ret2
          exact ⟨by rw [HE.out]; rfl, rfl⟩
        | 4, hs =>
          go_wp2_with (first | (go_at_call 17; refine (step_any 4 (z q) _ hs hzq.1 hzq.2).mono ?_; rintro e w' ⟨rfl, rfl⟩))
          go_ret2
          exact ⟨by rw [HE.out]; rfl, rfl⟩
        | 5, hs =>
          go_wp2_with (first | (go_at_call 17; refine (step_any 5 (z q) _ hs hzq.1 hzq.2).mono ?_; rintro e w' ⟨rfl, rfl⟩))
          go_ret2
          exact ⟨by rw [HE.out]; rfl, rfl⟩
        | 6, hs =>
          go_wp2_with (first | (go_at_call 17; refine (step_any 6 (z q) _ hs hzq.1 hzq.2).mono ?_; rintro e w' ⟨rfl, rfl⟩))
          go_ret2
          exact ⟨by rw [HE.out]; rfl, rfl⟩
        | 7, hs =>
          go_wp2_with (first | (go_at_call 17; refine (step_any 7 (z q) _ hs hzq.1 hzq.2).mono ?_; rintro e w' ⟨rfl, rfl⟩))
          go_ret2
          exact ⟨by rw [HE.out]; rfl, rfl⟩
        | 8, hs =>
          go_wp2_with (first | (go_at_call 17; refine (step_any 8 (z q) _ hs hzq.1 hzq.2).mono ?_; rintro e w' ⟨rfl, rfl⟩))
          go_ret2
          exact ⟨by rw [HE.out]; rfl, rfl⟩
      · have HE : Hid (R z len 0 i = R z len (nstep s (z q)).toNat (q + 1)) := by show _ = _; rw [hR.out]; exact R_go z len s q hlt hneg
        clear hR
        go_wp2_with (first | (go_at_call 17; refine (step_any s (z q) _ hs hzq.1 hzq.2).mono ?_; rintro e w' ⟨rfl, rfl⟩))
        go_round
        case rel => exact ⟨(nstep s (z q)).toNat, q + 1, by omega, by omega, by congr 1; omega, by go_num, HE⟩
        case measure => simp [intOf]; omega
    · have HE : Hid (R z len 0 i = (q, s)) := by show _ = _; rw [hR.out]; exact R_end z len s q hlt
      clear hR
      match s, hs with
      | 0, hs =>
        go_wp2
        go_ret2
        exact ⟨by rw [HE.out]; rfl, rfl⟩
      | 1, hs =>
        go_wp2
        go_ret2
        exact ⟨by rw [HE.out]; rfl, rfl⟩
      | 2, hs =>
        go_wp2
        go_ret2
        exact ⟨by rw [HE.out]; rfl, rfl⟩
      | 3, hs =>
        go_wp2
        go_ret2
        exact ⟨by rw [HE.out]; rfl, rfl⟩
      | 4, hs =>
        go_wp2
        go_ret2
        exact ⟨by rw [HE.out]; rfl, rfl⟩
      | 5, hs =>
        go_wp2
        go_ret2
        exact ⟨by rw [HE.out]; rfl, rfl⟩
      | 6, hs =>
        go_wp2
        go_ret2
        exact ⟨by rw [HE.out]; rfl, rfl⟩
      | 7, hs =>
        go_wp2
        go_ret2
        exact ⟨by rw [HE.out]; rfl, rfl⟩
      | 8, hs =>
        go_wp2
        go_ret2
        exact ⟨by rw [HE.out]; rfl, rfl⟩
end Go.Proofs.Qxb6601484a
