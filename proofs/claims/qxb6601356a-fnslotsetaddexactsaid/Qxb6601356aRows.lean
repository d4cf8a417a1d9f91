/-
  No cell of these rows narrows 'for every input' (looked for: loops, veiled, ifaces, maps, wideKeys, modest, calm, conditions, laid).
  DERIVED. THE GIVEN ROWS OF THIS SEAT. 2 by the template 'for every input the law returns true; each argument reads behind the call as it read before'; 0 by the template 'total and deterministic' (their statements: Qxb6601356aTotals.lean).
  GIVEN WITH THE SEED: the statements are not yours to turn. If you find one false, say at which input.
  Laid BY PROGRAM, IN A SANDBOX (cutbox-rows.mjs): the forced cells as the released guide's own fill.sh prints them over the translation 95d6d0dcfa6e8f85… (all of the seat's roots in one cut). By AI agents, Wed Nov 11 2026. No macro, syntax, notation, axiom, sorry.
-/
import Derived.Test.Qxb6601356aChecked
import GoSem.Claim
import GoSem.ClaimJoined
import GoSem.ClaimMapViews
import Derived.JoinedTies
import Derived.KernelRfl
namespace Go.Proofs.Qxb6601356a
/- THE CELL 'sum', in the pinned program and in every row, IS THE sha256 OF THE DUMP (.gsa) THAT Qxb6601356aProg.lean LOADS. Nothing in Lean hashes anything: it is a label: what it is worth is what the hold of that sum in a sandbox is worth. -/
noncomputable def Try.pinned : Pinned := { name := "qxb6601356a", sum := "95d6d0dcfa6e8f85c2541ec365c25c88138101689df6cff48aa66b4e211c2e72", checked := Try.checked }
namespace Rows
def none {H : Type} : Left H := { results := [], args := [] }

/-- 'zzlaws_root_b1.FnSlotSetAddExact': WHATEVER THE INPUT: true; the input reads as it did. -/
def fnSlotSetAddExactSpec : ChangeSpec := { name := "fnSlotSetAddExact", fn := fun _ => fun
  | [d1, d2, d3, d4] => { results := [.lit (.bool true)], args := [d1, d2, d3, d4] }
  | _ => none }
def fnSlotSetAddExactRow : OpenClaim := { program := "qxb6601356a", sum := "95d6d0dcfa6e8f85c2541ec365c25c88138101689df6cff48aa66b4e211c2e72", func := "example.com/pruneleaf/pruneleaf/zzlaws_root_b1.FnSlotSetAddExact", spec := "fnSlotSetAddExact", apart := false }
def FnSlotSetAddExactSaid : Prop := fnSlotSetAddExactRow.holds Try.pinned (OpenSpec.ofChange fnSlotSetAddExactSpec)

/-- ITS FALSE NEIGHBOUR: 'it returns false'. Refute it at one input. -/
def fnSlotSetAddExactWrong : ChangeSpec := { name := "fnSlotSetAddExact", fn := fun _ => fun
  | [d1, d2, d3, d4] => { results := [.lit (.bool false)], args := [d1, d2, d3, d4] }
  | _ => none }
def FnSlotSetAddExactWrongFalsely : Prop := fnSlotSetAddExactRow.holds Try.pinned (OpenSpec.ofChange fnSlotSetAddExactWrong)

/-- 'zzlaws_root_b1.FnSlotSetAddScript': WHATEVER THE INPUT: true; the input reads as it did. -/
def fnSlotSetAddScriptSpec : ChangeSpec := { name := "fnSlotSetAddScript", fn := fun _ => fun
  | [d] => { results := [.lit (.bool true)], args := [d] }
  | _ => none }
def fnSlotSetAddScriptRow : OpenClaim := { program := "qxb6601356a", sum := "95d6d0dcfa6e8f85c2541ec365c25c88138101689df6cff48aa66b4e211c2e72", func := "example.com/pruneleaf/pruneleaf/zzlaws_root_b1.FnSlotSetAddScript", spec := "fnSlotSetAddScript", apart := false }
def FnSlotSetAddScriptSaid : Prop := fnSlotSetAddScriptRow.holds Try.pinned (OpenSpec.ofChange fnSlotSetAddScriptSpec)

/-- ITS FALSE NEIGHBOUR: 'it returns false'. Refute it at one input. -/
def fnSlotSetAddScriptWrong : ChangeSpec := { name := "fnSlotSetAddScript", fn := fun _ => fun
  | [d] => { results := [.lit (.bool false)], args := [d] }
  | _ => none }
def FnSlotSetAddScriptWrongFalsely : Prop := fnSlotSetAddScriptRow.holds Try.pinned (OpenSpec.ofChange fnSlotSetAddScriptWrong)

end Rows
end Go.Proofs.Qxb6601356a
