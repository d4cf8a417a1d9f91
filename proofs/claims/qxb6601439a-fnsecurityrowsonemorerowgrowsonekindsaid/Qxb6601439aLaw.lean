/-
  From what the shell tells of the weights to what the walks ask.
-/
import Derived.Test.Qxb6601439aCalls
import Derived.ProofKit
namespace Go.Proofs.Qxb6601439a
open Go.RowKit Go.Deep Go.WideShapes Plain
set_option linter.unusedVariables false

theorem cell_lt {w : World} {a : Addr} {v : Value} (h : w.cell? a = some v) : a.block < w.heap.size := by
  by_cases hb : a.block < w.heap.size
  · exact hb
  · simp [World.cell?, Array.getElem?_eq_none (Nat.le_of_not_lt hb)] at h

theorem at0_take (zs : List Int) (len j : Nat) (h : j < len) : at0 (zs.take len) j = zs.getD j 0 := by
  unfold at0
  rw [List.getElem?_take, if_pos h, List.getD_eq_getElem?_getD]

/-- the weights, read out of the row -/
theorem wsAt_of {w : World} {x : Addr} {len : Nat} {zs : List Int} (hlz : len ≤ zs.length) (hc : ∀ i, i < zs.length → w.cell? (x.add i) = some (.int .i64 (zs.getD i 0))) : WsAt w (some x) len (zs.take len) := by
  intro h0
  obtain ⟨b, off, spot⟩ := x
  have g0 := hc 0 (by omega)
  obtain rfl : spot = none := by simpa [Addr.add] using World.cell?_spot g0
  refine ⟨b, off, rfl, by rw [add_plain] at g0; exact cell_lt g0, fun j hj => ?_⟩
  have := hc j (by omega)
  rw [add_plain] at this
  rw [this, at0_take zs len j hj]
end Go.Proofs.Qxb6601439a
