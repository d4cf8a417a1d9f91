/-
  No cell of these rows narrows 'for every input' (looked for: loops, veiled, ifaces, maps, wideKeys, modest, calm, conditions, laid).
  DERIVED. THE GIVEN ROWS OF THIS SEAT. 2 by the template 'for every input the law returns true; each argument reads behind the call as it read before'; 0 by the template 'total and deterministic' (their statements: Qxb6601456aTotals.lean).
  GIVEN WITH THE SEED: the statements are not yours to turn. If you find one false, say at which input.
  Laid BY PROGRAM, IN A SANDBOX (cutbox-rows.mjs): the forced cells as the released guide's own fill.sh prints them over the translation dcc8ab74f1adfad1… (all of the seat's roots in one cut). By AI agents, Wed Nov 11 2026. No macro, syntax, notation, axiom, sorry.
-/
import Derived.Test.Qxb6601456aChecked
import GoSem.Claim
import GoSem.ClaimJoined
import GoSem.ClaimMapViews
import Derived.JoinedTies
import Derived.KernelRfl
namespace Go.Proofs.Qxb6601456a
/- THE CELL 'sum', in the pinned program and in every row, IS THE sha256 OF THE DUMP (.gsa) THAT Qxb6601456aProg.lean LOADS. Nothing in Lean hashes anything: it is a label: what it is worth is what the hold of that sum in a sandbox is worth. -/
noncomputable def Try.pinned : Pinned := { name := "qxb6601456a", sum := "dcc8ab74f1adfad1cd83006d31db4ad897f7db469f2d507f68dd1c685facd4ba", checked := Try.checked }
namespace Rows
def none {H : Type} : Left H := { results := [], args := [] }

/-- 'zzlaws_internal_filter_b1.FnLastNamesFromMatchesForwardCount': WHATEVER THE INPUT: true; the input reads as it did. -/
def fnLastNamesFromMatchesForwardCountSpec : ChangeSpec := { name := "fnLastNamesFromMatchesForwardCount", fn := fun _ => fun
  | [d1, d2] => { results := [.lit (.bool true)], args := [d1, d2] }
  | _ => none }
def fnLastNamesFromMatchesForwardCountRow : OpenClaim := { program := "qxb6601456a", sum := "dcc8ab74f1adfad1cd83006d31db4ad897f7db469f2d507f68dd1c685facd4ba", func := "example.com/tidemark/tidemark/zzlaws_internal_filter_b1.FnLastNamesFromMatchesForwardCount", spec := "fnLastNamesFromMatchesForwardCount", apart := false }
def FnLastNamesFromMatchesForwardCountSaid : Prop := fnLastNamesFromMatchesForwardCountRow.holds Try.pinned (OpenSpec.ofChange fnLastNamesFromMatchesForwardCountSpec)

/-- ITS FALSE NEIGHBOUR: 'it returns false'. Refute it at one input. -/
def fnLastNamesFromMatchesForwardCountWrong : ChangeSpec := { name := "fnLastNamesFromMatchesForwardCount", fn := fun _ => fun
  | [d1, d2] => { results := [.lit (.bool false)], args := [d1, d2] }
  | _ => none }
def FnLastNamesFromMatchesForwardCountWrongFalsely : Prop := fnLastNamesFromMatchesForwardCountRow.holds Try.pinned (OpenSpec.ofChange fnLastNamesFromMatchesForwardCountWrong)

/-- 'zzlaws_internal_filter_b1.FnLastNamesFromStartFallsAsNGrows': WHATEVER THE INPUT: true; the input reads as it did. -/
def fnLastNamesFromStartFallsAsNGrowsSpec : ChangeSpec := { name := "fnLastNamesFromStartFallsAsNGrows", fn := fun _ => fun
  | [d1, d2, d3] => { results := [.lit (.bool true)], args := [d1, d2, d3] }
  | _ => none }
def fnLastNamesFromStartFallsAsNGrowsRow : OpenClaim := { program := "qxb6601456a", sum := "dcc8ab74f1adfad1cd83006d31db4ad897f7db469f2d507f68dd1c685facd4ba", func := "example.com/tidemark/tidemark/zzlaws_internal_filter_b1.FnLastNamesFromStartFallsAsNGrows", spec := "fnLastNamesFromStartFallsAsNGrows", apart := false }
def FnLastNamesFromStartFallsAsNGrowsSaid : Prop := fnLastNamesFromStartFallsAsNGrowsRow.holds Try.pinned (OpenSpec.ofChange fnLastNamesFromStartFallsAsNGrowsSpec)

/-- ITS FALSE NEIGHBOUR: 'it returns false'. Refute it at one input. -/
def fnLastNamesFromStartFallsAsNGrowsWrong : ChangeSpec := { name := "fnLastNamesFromStartFallsAsNGrows", fn := fun _ => fun
  | [d1, d2, d3] => { results := [.lit (.bool false)], args := [d1, d2, d3] }
  | _ => none }
def FnLastNamesFromStartFallsAsNGrowsWrongFalsely : Prop := fnLastNamesFromStartFallsAsNGrowsRow.holds Try.pinned (OpenSpec.ofChange fnLastNamesFromStartFallsAsNGrowsWrong)

end Rows
end Go.Proofs.Qxb6601456a
