/-
  (*scan).number$1 (19): where the digits end: its contract.
-/
import Derived.Test.Qxb6601484aModel
namespace Go.Proofs.Qxb6601484a
open Go.RowKit Go.Deep Num
set_option linter.unusedVariables false

set_option maxHeartbeats 1600000 in
theorem digits_any (V B len cap j : Nat) (z : Nat → Int) (w : World) (hm : len ≤ 1048576) (hv : w.cell? ⟨V, 0, none⟩ = some (.slice (some ⟨B, 0, none⟩) len cap)) (hrow : Bytes w B len z) (hz : ∀ j, 0 ≤ z j ∧ z j ≤ 255) (hj : j ≤ len) :
    Calls Try.prog 19 #[.int .i64 j, .pointer (some ⟨V, 0, none⟩)] w fun e w' => e = .returned (.int .i64 (D z len j : Nat)) ∧ w = w' := by
  go_enter Try.func19, Try.ntmps19
  go_wp2
  go_loop [0] (fun i => ∃ q : Nat, q ≤ len ∧ i = .int .i64 q ∧ Hid (D z len j = D z len q)) (fun i => len - (intOf i).toNat)
  case atStart => exact ⟨j, hj, rfl, rfl⟩
  case round =>
    obtain ⟨q, hq, rfl, hD⟩ := hrel
    by_cases hlt : q < len
    · have hcq := World.rowIs.cell hrow hlt
      have hzq := hz q
      have hd0 : decide ((q : Int) < (len : Int)) = true := by simpa using hlt
      by_cases h48 : 48 ≤ z q
      · have hd1 : decide (48 ≤ z q) = true := by simpa using h48
        by_cases h57 : z q ≤ 57
        · have HD : Hid (D z len j = D z len (q + 1)) := by show _ = _; rw [hD.out]; exact D_go z len q ⟨hlt, by unfold dgt; simp; omega⟩
          clear hD
          go_wp2
          go_round
          case rel => exact ⟨q + 1, by omega, by go_num, HD⟩
          case measure => simp [intOf]; omega
        · have HD : Hid (D z len j = q) := by show _ = _; rw [hD.out]; exact D_stop z len q (fun h => by have := h.2; unfold dgt at this; simp at this; omega)
          clear hD
          go_wp2
          go_ret
          exact ⟨by rw [HD.out]; rfl, rfl⟩
      · have hd1 : decide (48 ≤ z q) = false := by simpa using h48
        have HD : Hid (D z len j = q) := by show _ = _; rw [hD.out]; exact D_stop z len q (fun h => by have := h.2; unfold dgt at this; simp at this; omega)
        clear hD
        go_wp2
        go_ret
        exact ⟨by rw [HD.out]; rfl, rfl⟩
    · have hd0 : decide ((q : Int) < (len : Int)) = false := by simpa using hlt
      have HD : Hid (D z len j = q) := by show _ = _; rw [hD.out]; exact D_stop z len q (fun h => hlt h.1)
      clear hD
      go_wp2
      go_ret
      exact ⟨by rw [HD.out]; rfl, rfl⟩

end Go.Proofs.Qxb6601484a
