/-
  No cell of these rows narrows 'for every input' (looked for: loops, veiled, ifaces, maps, wideKeys, modest, calm, conditions, laid).
  DERIVED. THE GIVEN ROWS OF THIS SEAT. 4 by the template 'for every input the law returns true; each argument reads behind the call as it read before'; 0 by the template 'total and deterministic' (their statements: Qxb6601484aTotals.lean).
  GIVEN WITH THE SEED: the statements are not yours to turn. If you find one false, say at which input.
  Laid BY PROGRAM, IN A SANDBOX (cutbox-rows.mjs): the forced cells as the released guide's own fill.sh prints them over the translation 02665ad2e3e8ed08… (all of the seat's roots in one cut). By AI agents, Wed Nov 11 2026. No macro, syntax, notation, axiom, sorry.
-/
import Derived.Test.Qxb6601484aChecked
import GoSem.Claim
import GoSem.ClaimJoined
import GoSem.ClaimMapViews
import Derived.JoinedTies
import Derived.KernelRfl
namespace Go.Proofs.Qxb6601484a
/- THE CELL 'sum', in the pinned program and in every row, IS THE sha256 OF THE DUMP (.gsa) THAT Qxb6601484aProg.lean LOADS. Nothing in Lean hashes anything: it is a label: what it is worth is what the hold of that sum in a sandbox is worth. -/
noncomputable def Try.pinned : Pinned := { name := "qxb6601484a", sum := "02665ad2e3e8ed082abdbbc4a1f6536eeafd5294977ef06b947fdd7560c7ea21", checked := Try.checked }
namespace Rows
def none {H : Type} : Left H := { results := [], args := [] }

/-- 'zzlaws_internal_httpjson_b1.FnScanNumberMatchesAutomaton': WHATEVER THE INPUT: true; the input reads as it did. -/
def fnScanNumberMatchesAutomatonSpec : ChangeSpec := { name := "fnScanNumberMatchesAutomaton", fn := fun _ => fun
  | [d1, d2, d3] => { results := [.lit (.bool true)], args := [d1, d2, d3] }
  | _ => none }
def fnScanNumberMatchesAutomatonRow : OpenClaim := { program := "qxb6601484a", sum := "02665ad2e3e8ed082abdbbc4a1f6536eeafd5294977ef06b947fdd7560c7ea21", func := "example.com/quorumgate/quorumgate/zzlaws_internal_httpjson_b1.FnScanNumberMatchesAutomaton", spec := "fnScanNumberMatchesAutomaton", unfollowed := true, recurses := true, apart := false }
def FnScanNumberMatchesAutomatonSaid : Prop := fnScanNumberMatchesAutomatonRow.holds Try.pinned (OpenSpec.ofChange fnScanNumberMatchesAutomatonSpec)

/-- ITS FALSE NEIGHBOUR: 'it returns false'. Refute it at one input. -/
def fnScanNumberMatchesAutomatonWrong : ChangeSpec := { name := "fnScanNumberMatchesAutomaton", fn := fun _ => fun
  | [d1, d2, d3] => { results := [.lit (.bool false)], args := [d1, d2, d3] }
  | _ => none }
def FnScanNumberMatchesAutomatonWrongFalsely : Prop := fnScanNumberMatchesAutomatonRow.holds Try.pinned (OpenSpec.ofChange fnScanNumberMatchesAutomatonWrong)

/-- 'zzlaws_internal_httpjson_b1.FnScanNumberShiftInvariant': WHATEVER THE INPUT: true; the input reads as it did. -/
def fnScanNumberShiftInvariantSpec : ChangeSpec := { name := "fnScanNumberShiftInvariant", fn := fun _ => fun
  | [d1, d2] => { results := [.lit (.bool true)], args := [d1, d2] }
  | _ => none }
def fnScanNumberShiftInvariantRow : OpenClaim := { program := "qxb6601484a", sum := "02665ad2e3e8ed082abdbbc4a1f6536eeafd5294977ef06b947fdd7560c7ea21", func := "example.com/quorumgate/quorumgate/zzlaws_internal_httpjson_b1.FnScanNumberShiftInvariant", spec := "fnScanNumberShiftInvariant", unfollowed := true, recurses := true, apart := false }
def FnScanNumberShiftInvariantSaid : Prop := fnScanNumberShiftInvariantRow.holds Try.pinned (OpenSpec.ofChange fnScanNumberShiftInvariantSpec)

/-- ITS FALSE NEIGHBOUR: 'it returns false'. Refute it at one input. -/
def fnScanNumberShiftInvariantWrong : ChangeSpec := { name := "fnScanNumberShiftInvariant", fn := fun _ => fun
  | [d1, d2] => { results := [.lit (.bool false)], args := [d1, d2] }
  | _ => none }
def FnScanNumberShiftInvariantWrongFalsely : Prop := fnScanNumberShiftInvariantRow.holds Try.pinned (OpenSpec.ofChange fnScanNumberShiftInvariantWrong)

/-- 'zzlaws_internal_httpjson_b1.FnScanNumberPieceReadAloneIsWhole': WHATEVER THE INPUT: true; the input reads as it did. -/
def fnScanNumberPieceReadAloneIsWholeSpec : ChangeSpec := { name := "fnScanNumberPieceReadAloneIsWhole", fn := fun _ => fun
  | [d1, d2] => { results := [.lit (.bool true)], args := [d1, d2] }
  | _ => none }
def fnScanNumberPieceReadAloneIsWholeRow : OpenClaim := { program := "qxb6601484a", sum := "02665ad2e3e8ed082abdbbc4a1f6536eeafd5294977ef06b947fdd7560c7ea21", func := "example.com/quorumgate/quorumgate/zzlaws_internal_httpjson_b1.FnScanNumberPieceReadAloneIsWhole", spec := "fnScanNumberPieceReadAloneIsWhole", unfollowed := true, recurses := true, apart := false }
def FnScanNumberPieceReadAloneIsWholeSaid : Prop := fnScanNumberPieceReadAloneIsWholeRow.holds Try.pinned (OpenSpec.ofChange fnScanNumberPieceReadAloneIsWholeSpec)

/-- ITS FALSE NEIGHBOUR: 'it returns false'. Refute it at one input. -/
def fnScanNumberPieceReadAloneIsWholeWrong : ChangeSpec := { name := "fnScanNumberPieceReadAloneIsWhole", fn := fun _ => fun
  | [d1, d2] => { results := [.lit (.bool false)], args := [d1, d2] }
  | _ => none }
def FnScanNumberPieceReadAloneIsWholeWrongFalsely : Prop := fnScanNumberPieceReadAloneIsWholeRow.holds Try.pinned (OpenSpec.ofChange fnScanNumberPieceReadAloneIsWholeWrong)

/-- 'zzlaws_internal_httpjson_b1.FnUnicodeEscapeReadsBackWrittenEscape': WHATEVER THE INPUT: true; the input reads as it did. -/
def fnUnicodeEscapeReadsBackWrittenEscapeSpec : ChangeSpec := { name := "fnUnicodeEscapeReadsBackWrittenEscape", fn := fun _ => fun
  | [d1, d2, d3, d4] => { results := [.lit (.bool true)], args := [d1, d2, d3, d4] }
  | _ => none }
def fnUnicodeEscapeReadsBackWrittenEscapeRow : OpenClaim := { program := "qxb6601484a", sum := "02665ad2e3e8ed082abdbbc4a1f6536eeafd5294977ef06b947fdd7560c7ea21", func := "example.com/quorumgate/quorumgate/zzlaws_internal_httpjson_b1.FnUnicodeEscapeReadsBackWrittenEscape", spec := "fnUnicodeEscapeReadsBackWrittenEscape", apart := false }
def FnUnicodeEscapeReadsBackWrittenEscapeSaid : Prop := fnUnicodeEscapeReadsBackWrittenEscapeRow.holds Try.pinned (OpenSpec.ofChange fnUnicodeEscapeReadsBackWrittenEscapeSpec)

/-- ITS FALSE NEIGHBOUR: 'it returns false'. Refute it at one input. -/
def fnUnicodeEscapeReadsBackWrittenEscapeWrong : ChangeSpec := { name := "fnUnicodeEscapeReadsBackWrittenEscape", fn := fun _ => fun
  | [d1, d2, d3, d4] => { results := [.lit (.bool false)], args := [d1, d2, d3, d4] }
  | _ => none }
def FnUnicodeEscapeReadsBackWrittenEscapeWrongFalsely : Prop := fnUnicodeEscapeReadsBackWrittenEscapeRow.holds Try.pinned (OpenSpec.ofChange fnUnicodeEscapeReadsBackWrittenEscapeWrong)

end Rows
end Go.Proofs.Qxb6601484a
