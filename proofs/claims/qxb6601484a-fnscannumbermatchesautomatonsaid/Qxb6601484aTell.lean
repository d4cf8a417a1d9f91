/-
  From what the shell tells of the bytes to what the walks ask.
-/
import Derived.Test.Qxb6601484aClone
namespace Go.Proofs.Qxb6601484a
open Go.RowKit
set_option linter.unusedVariables false

theorem bsAt_nil (w : World) : BsAt w none 0 0 [] := ⟨fun _ => ⟨rfl, rfl⟩, fun x hx => by cases hx⟩

theorem bsAt_of {w : World} {x : Addr} {len cap : Nat} {zs : List Int} (hlz : len ≤ zs.length) (hc : ∀ i, i < zs.length → w.cell? (x.add i) = some (.int .u8 (zs.getD i 0))) : BsAt w (some x) len cap (zs.take len) := by
  refine ⟨fun h => (by cases h), fun y hy j hj => ?_⟩
  cases hy
  rw [hc j (by omega)]
  unfold at0
  rw [List.getElem?_take, if_pos hj, List.getD_eq_getElem?_getD]
end Go.Proofs.Qxb6601484a
