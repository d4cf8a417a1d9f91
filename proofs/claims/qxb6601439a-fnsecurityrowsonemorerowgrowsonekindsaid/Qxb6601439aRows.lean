/-
  No cell of these rows narrows 'for every input' (looked for: loops, veiled, ifaces, maps, wideKeys, modest, calm, conditions, laid).
  DERIVED. THE GIVEN ROWS OF THIS SEAT. 2 by the template 'for every input the law returns true; each argument reads behind the call as it read before'; 0 by the template 'total and deterministic' (their statements: Qxb6601439aTotals.lean).
  GIVEN WITH THE SEED: the statements are not yours to turn. If you find one false, say at which input.
  Laid BY PROGRAM, IN A SANDBOX (cutbox-rows.mjs): the forced cells as the released guide's own fill.sh prints them over the translation e5f80946e7f7cde5… (all of the seat's roots in one cut). By AI agents, Wed Nov 11 2026. No macro, syntax, notation, axiom, sorry.
-/
import Derived.Test.Qxb6601439aChecked
import GoSem.Claim
import GoSem.ClaimJoined
import GoSem.ClaimMapViews
import Derived.JoinedTies
import Derived.KernelRfl
namespace Go.Proofs.Qxb6601439a
/- THE CELL 'sum', in the pinned program and in every row, IS THE sha256 OF THE DUMP (.gsa) THAT Qxb6601439aProg.lean LOADS. Nothing in Lean hashes anything: it is a label: what it is worth is what the hold of that sum in a sandbox is worth. -/
noncomputable def Try.pinned : Pinned := { name := "qxb6601439a", sum := "e5f80946e7f7cde5a932dd6db83a758573eea833135f97f35f4c099b3a413399", checked := Try.checked }
namespace Rows
def none {H : Type} : Left H := { results := [], args := [] }

/-- 'zzlaws_pkg_demo_b1.FnSecurityRowsGivesTheTopOffers': WHATEVER THE INPUT: true; the input reads as it did. -/
def fnSecurityRowsGivesTheTopOffersSpec : ChangeSpec := { name := "fnSecurityRowsGivesTheTopOffers", fn := fun _ => fun
  | [d1, d2] => { results := [.lit (.bool true)], args := [d1, d2] }
  | _ => none }
def fnSecurityRowsGivesTheTopOffersRow : OpenClaim := { program := "qxb6601439a", sum := "e5f80946e7f7cde5a932dd6db83a758573eea833135f97f35f4c099b3a413399", func := "example.com/tuoguan/tuoguan/zzlaws_pkg_demo_b1.FnSecurityRowsGivesTheTopOffers", spec := "fnSecurityRowsGivesTheTopOffers", apart := false }
def FnSecurityRowsGivesTheTopOffersSaid : Prop := fnSecurityRowsGivesTheTopOffersRow.holds Try.pinned (OpenSpec.ofChange fnSecurityRowsGivesTheTopOffersSpec)

/-- ITS FALSE NEIGHBOUR: 'it returns false'. Refute it at one input. -/
def fnSecurityRowsGivesTheTopOffersWrong : ChangeSpec := { name := "fnSecurityRowsGivesTheTopOffers", fn := fun _ => fun
  | [d1, d2] => { results := [.lit (.bool false)], args := [d1, d2] }
  | _ => none }
def FnSecurityRowsGivesTheTopOffersWrongFalsely : Prop := fnSecurityRowsGivesTheTopOffersRow.holds Try.pinned (OpenSpec.ofChange fnSecurityRowsGivesTheTopOffersWrong)

/-- 'zzlaws_pkg_demo_b1.FnSecurityRowsOneMoreRowGrowsOneKind': WHATEVER THE INPUT: true; the input reads as it did. -/
def fnSecurityRowsOneMoreRowGrowsOneKindSpec : ChangeSpec := { name := "fnSecurityRowsOneMoreRowGrowsOneKind", fn := fun _ => fun
  | [d1, d2] => { results := [.lit (.bool true)], args := [d1, d2] }
  | _ => none }
def fnSecurityRowsOneMoreRowGrowsOneKindRow : OpenClaim := { program := "qxb6601439a", sum := "e5f80946e7f7cde5a932dd6db83a758573eea833135f97f35f4c099b3a413399", func := "example.com/tuoguan/tuoguan/zzlaws_pkg_demo_b1.FnSecurityRowsOneMoreRowGrowsOneKind", spec := "fnSecurityRowsOneMoreRowGrowsOneKind", apart := false }
def FnSecurityRowsOneMoreRowGrowsOneKindSaid : Prop := fnSecurityRowsOneMoreRowGrowsOneKindRow.holds Try.pinned (OpenSpec.ofChange fnSecurityRowsOneMoreRowGrowsOneKindSpec)

/-- ITS FALSE NEIGHBOUR: 'it returns false'. Refute it at one input. -/
def fnSecurityRowsOneMoreRowGrowsOneKindWrong : ChangeSpec := { name := "fnSecurityRowsOneMoreRowGrowsOneKind", fn := fun _ => fun
  | [d1, d2] => { results := [.lit (.bool false)], args := [d1, d2] }
  | _ => none }
def FnSecurityRowsOneMoreRowGrowsOneKindWrongFalsely : Prop := fnSecurityRowsOneMoreRowGrowsOneKindRow.holds Try.pinned (OpenSpec.ofChange fnSecurityRowsOneMoreRowGrowsOneKindWrong)

end Rows
end Go.Proofs.Qxb6601439a
