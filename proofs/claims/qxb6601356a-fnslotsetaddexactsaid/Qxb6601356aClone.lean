/-
  zzCloneInts (6), zzCloneBools (7), the two bounds (5, 12): their contracts.
-/
import Derived.Test.Qxb6601356aRows
import Derived.WalkKit
import Derived.WalkSpells
import Derived.WalkLawsBesides
import Derived.Deep.OwnRows
namespace Go.Proofs.Qxb6601356a
open Go.RowKit Go.Deep

theorem Try.info3 : (Try.prog.info? 3).map (fun i => (i.zero, i.size, i.bytes)) = some (some (.int .i64 0), 1, 8) := by kernel_rfl
theorem Try.info4 : (Try.prog.info? 4).map (fun i => (i.zero, i.size, i.bytes)) = some (some (.bool false), 1, 1) := by kernel_rfl
theorem eqNil23 (w : World) (a : Option Addr) (n c n' c' : Nat) : (binOp .eql 23 (.slice a n c) (.slice none n' c')).run Try.prog w = .ok (.bool a.isNone) w := Lib.run_eql_slice_nil w _ _ a n c n' c' Try.underlying23
theorem eqNil24 (w : World) (a : Option Addr) (n c n' c' : Nat) : (binOp .eql 24 (.slice a n c) (.slice none n' c')).run Try.prog w = .ok (.bool a.isNone) w := Lib.run_eql_slice_nil w _ _ a n c n' c' Try.underlying24

theorem cloneInts_nil (w : World) : Calls Try.prog 6 #[.slice none 0 0] w fun e w' => e = .returned (.slice none 0 0) ∧ w = w' := by
  have q := eqNil23
  go_enter Try.func6, Try.ntmps6
  go_wp2
  go_ret
  exact ⟨rfl, rfl⟩

set_option maxHeartbeats 800000 in
theorem cloneInts_any (x : Addr) (len cap : Nat) (zs : List Int) (w : World) (hm : len ≤ 1048576) (hb : 0 < len → x.spot = none ∧ x.block < w.heap.size)
    (hc : ∀ j, j < len → w.cell? ⟨x.block, x.off + j, none⟩ = some (.int .i64 (zs[j]?.getD 0))) :
    Calls Try.prog 6 #[.slice (some x) len cap] w fun e w' => e = .returned (.slice (some ⟨w.heap.size, 0, none⟩) len len) ∧ w'.rowIs w.heap.size 3 len (fun j => .int .i64 (zs[j]?.getD 0)) ∧ Below w.heap.size w w' ∧ w'.heap.size = w.heap.size + 1 := by
  have q := eqNil23
  have hmk := run_make_row' (P := Try.prog) 23 3 (.int .i64 0) 8 Try.underlying23 Try.info3 rfl .i64 .i64 len (by omega) (by omega)
  go_enter Try.func6, Try.ntmps6
  go_wp2
  go_loopw [4] (fun i wr => ∃ k : Nat, k ≤ len ∧ i = .int .i64 k ∧ wr.rowIs w.heap.size 3 len (fun j => .int .i64 (if j < k then zs[j]?.getD 0 else 0)) ∧ Below w.heap.size w wr ∧ wr.heap.size = w.heap.size + 1) (fun i _ => len - (intOf i).toNat)
  case atStart => exact ⟨0, Nat.zero_le _, rfl, (World.rowIs_made _ _ _ _).congr (by simp), (Below.refl _ _).alloc (Nat.le_refl _) _, by simp⟩
  case round =>
    obtain ⟨k, hk, rfl, hrow, hbel, hsz⟩ := hrel
    by_cases hlt : k < len
    · obtain ⟨b, off, spot⟩ := x
      obtain ⟨rfl, hbl⟩ := hb (by omega)
      have hcx : wr.cell? ⟨b, off + k, none⟩ = some (.int .i64 (zs[k]?.getD 0)) := (hbel.cell (by exact hbl)).trans (hc k hlt)
      have hcd := hrow.cell hlt
      have hfd := hrow.frozen k
      go_wp2
      go_roundw
      case rel =>
        refine ⟨k + 1, by omega, by go_num, (hrow.set k _).congr ?_, hbel.setCell (Nat.le_refl _) _, by simp [World.setCell, hsz]⟩
        intro j hj
        by_cases e : j = k
        · subst e; simp
        · simp [e, show (j < k + 1) = (j < k) by simp; omega]
      case measure => simp [intOf]; omega
    · go_wp2
      go_ret
      have : k = len := by omega
      subst this
      exact ⟨rfl, hrow.congr (fun j hj => by simp [hj]), hbel, hsz⟩
theorem cloneBools_nil (w : World) : Calls Try.prog 7 #[.slice none 0 0] w fun e w' => e = .returned (.slice none 0 0) ∧ w = w' := by
  have q := eqNil24
  go_enter Try.func7, Try.ntmps7
  go_wp2
  go_ret
  exact ⟨rfl, rfl⟩

set_option maxHeartbeats 800000 in
theorem cloneBools_any (x : Addr) (len cap : Nat) (zs : List Bool) (w : World) (hm : len ≤ 1048576) (hb : 0 < len → x.spot = none ∧ x.block < w.heap.size)
    (hc : ∀ j, j < len → w.cell? ⟨x.block, x.off + j, none⟩ = some (.bool (zs[j]?.getD false))) :
    Calls Try.prog 7 #[.slice (some x) len cap] w fun e w' => e = .returned (.slice (some ⟨w.heap.size, 0, none⟩) len len) ∧ w'.rowIs w.heap.size 4 len (fun j => .bool (zs[j]?.getD false)) ∧ Below w.heap.size w w' ∧ w'.heap.size = w.heap.size + 1 := by
  have q := eqNil24
  have hmk := run_make_row' (P := Try.prog) 24 4 (.bool false) 1 Try.underlying24 Try.info4 rfl .i64 .i64 len (by omega) (by omega)
  go_enter Try.func7, Try.ntmps7
  go_wp2
  go_loopw [4] (fun i wr => ∃ k : Nat, k ≤ len ∧ i = .int .i64 k ∧ wr.rowIs w.heap.size 4 len (fun j => .bool (if j < k then zs[j]?.getD false else false)) ∧ Below w.heap.size w wr ∧ wr.heap.size = w.heap.size + 1) (fun i _ => len - (intOf i).toNat)
  case atStart => exact ⟨0, Nat.zero_le _, rfl, (World.rowIs_made _ _ _ _).congr (by simp), (Below.refl _ _).alloc (Nat.le_refl _) _, by simp⟩
  case round =>
    obtain ⟨k, hk, rfl, hrow, hbel, hsz⟩ := hrel
    by_cases hlt : k < len
    · obtain ⟨b, off, spot⟩ := x
      obtain ⟨rfl, hbl⟩ := hb (by omega)
      have hcx : wr.cell? ⟨b, off + k, none⟩ = some (.bool (zs[k]?.getD false)) := (hbel.cell (by exact hbl)).trans (hc k hlt)
      have hcd := hrow.cell hlt
      have hfd := hrow.frozen k
      go_wp2
      go_roundw
      case rel =>
        refine ⟨k + 1, by omega, by go_num, (hrow.set k _).congr ?_, hbel.setCell (Nat.le_refl _) _, by simp [World.setCell, hsz]⟩
        intro j hj
        by_cases e : j = k
        · subst e; simp
        · simp [e, show (j < k + 1) = (j < k) by simp; omega]
      case measure => simp [intOf]; omega
    · go_wp2
      go_ret
      have : k = len := by omega
      subst this
      exact ⟨rfl, hrow.congr (fun j hj => by simp [hj]), hbel, hsz⟩
end Go.Proofs.Qxb6601356a
