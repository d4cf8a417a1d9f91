/-
  The small functions of the road (6, 7, 8, 10): their contracts.
-/
import Derived.Test.Qxb6601439aRows
import Derived.Test.Qxb6601439aPlain
import Derived.WalkKit
import Derived.WalkSpells
import Derived.WalkLawsBesides
import Derived.Deep.OwnRows
namespace Go.Proofs.Qxb6601439a
open Go.RowKit Go.Deep Plain
set_option linter.unusedVariables false

theorem Try.info2 : (Try.prog.info? 2).map (fun i => (i.zero, i.size, i.bytes)) = some (some (.int .i64 0), 1, 8) := by kernel_rfl
theorem Try.info3 : (Try.prog.info? 3).map (fun i => (i.zero, i.size, i.bytes)) = some (some (.int .i64 0), 1, 8) := by kernel_rfl
theorem eqNil22 (w : World) (a : Option Addr) (n c n' c' : Nat) : (binOp .eql 22 (.slice a n c) (.slice none n' c')).run Try.prog w = .ok (.bool a.isNone) w := Lib.run_eql_slice_nil w _ _ a n c n' c' Try.underlying22

/-- what the walk is told of the weights that came in -/
def WsAt (w : World) (a : Option Addr) (len : Nat) (ws : List Int) : Prop :=
  0 < len → ∃ b off, a = some ⟨b, off, none⟩ ∧ b < w.heap.size ∧ ∀ j, j < len → w.cell? ⟨b, off + j, none⟩ = some (.int .i64 (at0 ws j))

theorem WsAt.below {w w1 : World} {a : Option Addr} {len : Nat} {ws : List Int} (h : WsAt w a len ws) (hb : Below w.heap.size w w1) : WsAt w1 a len ws := by
  intro h0
  obtain ⟨b, off, rfl, hlt, hc⟩ := h h0
  exact ⟨b, off, rfl, Nat.lt_of_lt_of_le hlt hb.size, fun j hj => (hb.cell (by exact hlt)).trans (hc j hj)⟩

theorem leastRows (v : Int) (w : World) (h0 : 0 ≤ v) (h1 : v ≤ 1048576) : Calls Try.prog 10 #[.int .i64 v] w fun e w' => e = .returned (.int .i64 (least v)) ∧ w = w' := by
  by_cases h : v / 400 * 400 < v
  · have e : least v = v / 400 + 1 := by unfold least; omega
    rw [e]
    go_enter Try.func10, Try.ntmps10
    go_wp2
    go_ret
    exact ⟨rfl, rfl⟩
  · have e : least v = v / 400 := by unfold least; omega
    rw [e]
    go_enter Try.func10, Try.ntmps10
    go_wp2
    go_ret
    exact ⟨rfl, rfl⟩

theorem leastRowsQ (v : Int) (w : World) (h0 : 0 ≤ v) (h1 : v ≤ 1048576) : Calls Try.prog 10 #[.int .i64 v] w fun e w' => e = .returned (.int .i64 (least v)) ∧ w' = w :=
  (leastRows v w h0 h1).mono fun _ _ ⟨h1, h2⟩ => ⟨h1, h2.symm⟩

set_option maxHeartbeats 800000 in
theorem leastSum (a : Option Addr) (len cap : Nat) (ws : List Int) (w : World) (hm : len ≤ 4096) (hA : WsAt w a len ws) (h0 : ∀ i, 0 ≤ at0 ws i) (h1 : ∀ i, at0 ws i ≤ 1048576) :
    Calls Try.prog 7 #[.slice a len cap] w fun e w' => e = .returned (.int .i64 (sumTo (fun i => least (at0 ws i)) len)) ∧ w = w' := by
  go_enter Try.func7, Try.ntmps7
  go_wp2
  go_loop [3, 4] (fun s i => ∃ k : Nat, k ≤ len ∧ i = .int .i64 k ∧ s = .int .i64 (sumTo (fun i => least (at0 ws i)) k)) (fun _ i => len - (intOf i).toNat)
  case atStart => exact ⟨0, Nat.zero_le _, rfl, rfl⟩
  case round =>
    obtain ⟨k, hk, rfl, rfl⟩ := hrel
    by_cases hlt : k < len
    · obtain ⟨b, off, rfl, hbl, hc⟩ := hA (by omega)
      have hck := hc k hlt
      have sb := sumTo_bd ws h0 h1 k
      have l0 := least_nonneg (h0 k)
      have l1 := least_le (h1 k)
      have a0 := h0 k
      have a1 := h1 k
      clear hc
      go_wp2_with (first | (go_at_call 10; refine (leastRows _ _ a0 a1).mono ?_; rintro e w' ⟨rfl, rfl⟩))
      go_round
      case rel => exact ⟨k + 1, by omega, by go_num, rfl⟩
      case measure => simp [intOf]; omega
    · go_wp2
      go_ret
      obtain rfl : k = len := by omega
      exact ⟨rfl, rfl⟩

/-- are the first k weights figures in [0, 1 shifted by 20]? -/
def domB (ws : List Int) : Nat → Bool
  | 0 => true
  | k + 1 => domB ws k && decide (0 ≤ at0 ws k ∧ at0 ws k ≤ 1048576)

theorem domB_stop (ws : List Int) (k : Nat) (h : ¬ (0 ≤ at0 ws k ∧ at0 ws k ≤ 1048576)) : ∀ len, k < len → domB ws len = false
  | 0, hk => by omega
  | len + 1, hk => by
    unfold domB
    by_cases e : k = len
    · subst e; rw [decide_eq_false h]; simp
    · rw [domB_stop ws k h len (by omega)]; rfl

theorem domB_all (ws : List Int) : ∀ len, domB ws len = true → ∀ j, j < len → 0 ≤ at0 ws j ∧ at0 ws j ≤ 1048576
  | 0, _, j, hj => by omega
  | len + 1, h, j, hj => by
    unfold domB at h
    rw [Bool.and_eq_true] at h
    by_cases e : j = len
    · subst e; exact of_decide_eq_true h.2
    · exact domB_all ws len h.1 j (by omega)

theorem domB_at (ws : List Int) (h : domB ws ws.length = true) (i : Nat) : 0 ≤ at0 ws i ∧ at0 ws i ≤ 1048576 := by
  by_cases hi : i < ws.length
  · exact domB_all ws _ h i hi
  · rw [at0_big ws i (by omega)]; omega

set_option maxHeartbeats 800000 in
theorem inDomain (a : Option Addr) (len cap : Nat) (ws : List Int) (w : World) (hm : len ≤ 4096) (hA : WsAt w a len ws) (x : Bool) (hx : domB ws len = x) :
    Calls Try.prog 6 #[.slice a len cap] w fun e w' => e = .returned (.bool x) ∧ w = w' := by
  have HX : Hid (domB ws len = x) := hx
  clear hx
  go_enter Try.func6, Try.ntmps6
  go_wp2
  go_loop [3] (fun i => ∃ k : Nat, k ≤ len ∧ i = .int .i64 k ∧ domB ws k = true) (fun i => len - (intOf i).toNat)
  case atStart => exact ⟨0, Nat.zero_le _, rfl, rfl⟩
  case round =>
    obtain ⟨k, hk, rfl, hpos⟩ := hrel
    by_cases hlt : k < len
    · obtain ⟨b, off, rfl, hbl, hc⟩ := hA (by omega)
      have hck := hc k hlt
      clear hc
      by_cases hneg : at0 ws k < 0
      · have hd : decide (at0 ws k < 0) = true := by simpa using hneg
        have hf : Hid (domB ws len = false) := domB_stop ws k (by omega) len hlt
        go_wp2
        go_ret
        exact ⟨by rw [← HX.out, hf.out]; rfl, rfl⟩
      · have hd : decide (at0 ws k < 0) = false := by simpa using hneg
        by_cases hbig : 1048576 < at0 ws k
        · have hf : Hid (domB ws len = false) := domB_stop ws k (by omega) len hlt
          go_wp2
          go_ret
          exact ⟨by rw [← HX.out, hf.out]; rfl, rfl⟩
        · have hp : Hid (domB ws (k + 1) = true) := by
            show (domB ws k && _) = true
            rw [hpos, decide_eq_true (by omega)]
            rfl
          go_wp2
          go_round
          case rel => exact ⟨k + 1, by omega, by go_num, hp.out⟩
          case measure => simp [intOf]; omega
    · obtain rfl : k = len := by omega
      have hp : Hid (domB ws k = true) := hpos
      clear hpos
      go_wp2
      go_ret
      exact ⟨by rw [← HX.out, hp.out]; rfl, rfl⟩

theorem clone_nil (w : World) : Calls Try.prog 8 #[.slice none 0 0] w fun e w' => e = .returned (.slice none 0 0) ∧ w = w' := by
  have q := eqNil22
  go_enter Try.func8, Try.ntmps8
  go_wp2
  go_ret
  exact ⟨rfl, rfl⟩

set_option maxHeartbeats 800000 in
theorem clone_some (x : Addr) (len cap : Nat) (ws : List Int) (w : World) (hm : len ≤ 1048576) (hA : WsAt w (some x) len ws) :
    Calls Try.prog 8 #[.slice (some x) len cap] w fun e w' => ∃ B, e = .returned (.slice (some ⟨B, 0, none⟩) len len) ∧ w.heap.size ≤ B ∧ w'.rowIs B 2 len (fun j => .int .i64 (at0 ws j)) ∧ Below w.heap.size w w' := by
  have q := eqNil22
  have hmk := run_make_row' (P := Try.prog) 22 2 (.int .i64 0) 8 Try.underlying22 Try.info2 rfl .i64 .i64 len (by omega) (by omega)
  go_enter Try.func8, Try.ntmps8
  go_wp2
  go_loopw [4] (fun i wr => ∃ k : Nat, k ≤ len ∧ i = .int .i64 k ∧ wr.rowIs w.heap.size 2 len (fun j => .int .i64 (if j < k then at0 ws j else 0)) ∧ Below w.heap.size w wr) (fun i _ => len - (intOf i).toNat)
  case atStart => exact ⟨0, Nat.zero_le _, rfl, (World.rowIs_made _ _ _ _).congr (by simp), (Below.refl _ _).alloc (Nat.le_refl _) _⟩
  case round =>
    obtain ⟨k, hk, rfl, hrow, hbel⟩ := hrel
    by_cases hlt : k < len
    · obtain ⟨b, off, hx, hbl, hc⟩ := hA (by omega)
      cases hx
      have hcx : wr.cell? ⟨b, off + k, none⟩ = some (.int .i64 (at0 ws k)) := (hbel.cell (by exact hbl)).trans (hc k hlt)
      have hcd := hrow.cell hlt
      have hfd := hrow.frozen k
      clear hc hA
      go_wp2
      go_roundw
      case rel =>
        refine ⟨k + 1, by omega, by go_num, (hrow.set k _).congr ?_, hbel.setCell (Nat.le_refl _) _⟩
        intro j hj
        by_cases e : j = k
        · subst e; simp
        · simp [e, show (j < k + 1) = (j < k) by simp; omega]
      case measure => simp [intOf]; omega
    · go_wp2
      go_ret
      obtain rfl : k = len := by omega
      exact ⟨_, rfl, Nat.le_refl _, hrow.congr (fun j hj => by simp [hj]), hbel⟩

/-- the weights' copy: nil stays nil -/
theorem clone_any (a : Option Addr) (len cap : Nat) (ws : List Int) (w : World) (hm : len ≤ 1048576) (hn : a = none → len = 0 ∧ cap = 0) (hA : WsAt w a len ws) :
    Calls Try.prog 8 #[.slice a len cap] w fun e w' => ∃ a' c', e = .returned (.slice a' len c') ∧ (0 < len → ∃ B, a' = some ⟨B, 0, none⟩ ∧ w'.rowIs B 2 len (fun j => .int .i64 (at0 ws j))) ∧ Below w.heap.size w w' := by
  cases a with
  | none =>
    obtain ⟨rfl, rfl⟩ := hn rfl
    refine (clone_nil w).mono ?_
    rintro e w' ⟨rfl, rfl⟩
    exact ⟨none, 0, rfl, fun h => by omega, Below.refl _ _⟩
  | some x =>
    refine (clone_some x len cap ws w hm hA).mono ?_
    rintro e w' ⟨B, rfl, _, h1, h2⟩
    exact ⟨_, _, rfl, fun _ => ⟨B, rfl, h1⟩, h2⟩
end Go.Proofs.Qxb6601439a
