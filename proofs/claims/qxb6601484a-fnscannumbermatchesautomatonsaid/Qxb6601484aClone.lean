/-
  cloneBytes (8): its contract.
-/
import Derived.Test.Qxb6601484aRows
import Derived.WalkKit
import Derived.WalkSpells
import Derived.WalkLawsBesides
import Derived.Deep.OwnRows
import Derived.Laws.CopyRow
namespace Go.Proofs.Qxb6601484a
open Go.RowKit Go.Deep
set_option linter.unusedVariables false

theorem Try.info5 : (Try.prog.info? 5).map (fun i => (i.zero, i.size, i.bytes)) = some (some (.int .u8 0), 1, 1) := by kernel_rfl
theorem Try.size5 : (Try.prog.info? 5).map (·.size) = some 1 := by kernel_rfl
theorem eqNil22 (w : World) (a : Option Addr) (n c n' c' : Nat) : (binOp .eql 22 (.slice a n c) (.slice none n' c')).run Try.prog w = .ok (.bool a.isNone) w := Lib.run_eql_slice_nil w _ _ a n c n' c' Try.underlying22

def at0 (zs : List Int) (j : Nat) : Int := zs[j]?.getD 0

/-- what the walk is told of the bytes that came in -/
def BsAt (w : World) (a : Option Addr) (len cap : Nat) (zs : List Int) : Prop :=
  (a = none → len = 0 ∧ cap = 0) ∧ ∀ x, a = some x → ∀ j, j < len → w.cell? (x.add j) = some (.int .u8 (at0 zs j))

theorem cell_lt {w : World} {a : Addr} {v : Value} (h : w.cell? a = some v) : a.block < w.heap.size := by
  by_cases hb : a.block < w.heap.size
  · exact hb
  · simp [World.cell?, Array.getElem?_eq_none (Nat.le_of_not_lt hb)] at h

theorem BsAt.below {w w1 : World} {a : Option Addr} {len cap : Nat} {zs : List Int} (h : BsAt w a len cap zs) (hb : Below w.heap.size w w1) : BsAt w1 a len cap zs := by
  refine ⟨h.1, fun x hx j hj => ?_⟩
  have h1 := h.2 x hx j hj
  rw [hb.cell (cell_lt h1)]
  exact h1

theorem clone_nil (w : World) : Calls Try.prog 8 #[.slice none 0 0] w fun e w' => e = .returned (.slice none 0 0) ∧ w = w' := by
  have q := eqNil22
  go_enter Try.func8, Try.ntmps8
  go_wp2
  go_ret
  exact ⟨rfl, rfl⟩

/-- what copy does to the new row -/
theorem copied (x : Addr) (len cap : Nat) (zs : List Int) (w : World) (hA : BsAt w (some x) len cap zs) :
    ∃ w2, (∀ ty, (Builtin.copy_ #[22, 22] ty #[.slice (some ⟨w.heap.size, 0, none⟩) len len, .slice (some x) len cap]).run Try.prog (w.alloc (.cells (madeCells #[.int .u8 0] len) 5)) = .ok (.int .i64 len) w2) ∧
      w2.rowIs w.heap.size 5 len (fun j => .int .u8 (at0 zs j)) ∧ Below w.heap.size w w2 := by
  have hg : (w.alloc (.cells (madeCells #[.int .u8 0] len) 5)).heap[w.heap.size]? = some (.cells (madeCells #[.int .u8 0] len) 5 (0, 0)) := blk_alloc_new _ _
  have hl : ((List.range len).map (fun j => Value.int .u8 (at0 zs j))).length = len := by simp
  have hrun := fun ty => run_copy_row (P := Try.prog) (w.alloc (.cells (madeCells #[.int .u8 0] len) 5)) 22 22 ty 5 w.heap.size 0 len len x len cap (madeCells #[.int .u8 0] len) 5 ((List.range len).map (fun j => Value.int .u8 (at0 zs j)))
    Try.underlying22 Try.size5 hg (by rw [hl]; exact (Nat.min_self _).symm) (fun j v hv => ?_) (by rw [hl, size_madeCells]; omega) (fun v hv => ?_)
  · refine ⟨_, fun ty => (hrun ty).trans (by rw [hl]; rfl), ?_, ?_⟩
    · refine ⟨_, setRow_heap _ _ _ _ _ _ hg, ?_, fun j hj => ?_⟩
      · simp [size_madeCells]
      · simp [size_madeCells, hj]
    · exact ((Below.refl _ _).alloc (Nat.le_refl _) _).trans ⟨rfl, rfl, rfl, by simp [World.setRow], fun k hk => setRow_other _ _ _ _ (by omega)⟩
  · by_cases hj : j < len
    · rw [List.getElem?_map, List.getElem?_range hj] at hv
      simp at hv
      subst hv
      have h1 := hA.2 x rfl j hj
      rw [((Below.refl _ _).alloc (Nat.le_refl _) _ : Below w.heap.size w _).cell (cell_lt h1)]
      exact h1
    · rw [List.getElem?_eq_none (by rw [hl]; omega)] at hv
      cases hv
  · obtain ⟨j, _, rfl⟩ := List.mem_map.1 hv
    rfl

set_option maxHeartbeats 800000 in
theorem clone_some (x : Addr) (len cap : Nat) (zs : List Int) (w : World) (hm : len ≤ 1048576) (hA : BsAt w (some x) len cap zs) :
    Calls Try.prog 8 #[.slice (some x) len cap] w fun e w' => ∃ B, e = .returned (.slice (some ⟨B, 0, none⟩) len len) ∧ w'.rowIs B 5 len (fun j => .int .u8 (at0 zs j)) ∧ Below w.heap.size w w' := by
  have q := eqNil22
  have hmk := run_make_row' (P := Try.prog) 22 5 (.int .u8 0) 1 Try.underlying22 Try.info5 rfl .i64 .i64 len (by omega) (by omega)
  obtain ⟨w2, hcp, hrow, hbel⟩ := copied x len cap zs w hA
  go_enter Try.func8, Try.ntmps8
  go_wp2
  go_ret
  exact ⟨_, rfl, hrow, hbel⟩
end Go.Proofs.Qxb6601484a
