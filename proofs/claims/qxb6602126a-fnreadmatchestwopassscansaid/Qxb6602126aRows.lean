/-
  No cell of these rows narrows 'for every input' (looked for: loops, veiled, ifaces, maps, wideKeys, modest, calm, conditions, laid).
  DERIVED. THE GIVEN ROWS OF THIS SEAT. 6 by the template 'for every input the law returns true; each argument reads behind the call as it read before'; 0 by the template 'total and deterministic' (their statements: Qxb6602126aTotals.lean).
  GIVEN WITH THE SEED: the statements are not yours to turn. If you find one false, say at which input.
  Laid BY PROGRAM, IN A SANDBOX (cutbox-rows.mjs): the forced cells as the released guide's own fill.sh prints them over the translation b1b15c0a4c6391bd… (all of the seat's roots in one cut). By AI agents, Wed Nov 11 2026. No macro, syntax, notation, axiom, sorry.
-/
import Derived.Test.Qxb6602126aChecked
import GoSem.Claim
import GoSem.ClaimJoined
import GoSem.ClaimMapViews
import Derived.JoinedTies
import Derived.KernelRfl
namespace Go.Proofs.Qxb6602126a
/- THE CELL 'sum', in the pinned program and in every row, IS THE sha256 OF THE DUMP (.gsa) THAT Qxb6602126aProg.lean LOADS. Nothing in Lean hashes anything: it is a label: what it is worth is what the hold of that sum in a sandbox is worth. -/
noncomputable def Try.pinned : Pinned := { name := "qxb6602126a", sum := "b1b15c0a4c6391bd5c18a8654efe380ec613cde419b5739c9d95b6c52b5cdd66", checked := Try.checked }
namespace Rows
def none {H : Type} : Left H := { results := [], args := [] }

/-- 'zzlaws_jsontext_b1.FnOddBackslashesMatchesForwardParity': WHATEVER THE INPUT: true; the input reads as it did. -/
def fnOddBackslashesMatchesForwardParitySpec : ChangeSpec := { name := "fnOddBackslashesMatchesForwardParity", fn := fun _ => fun
  | [d1, d2, d3] => { results := [.lit (.bool true)], args := [d1, d2, d3] }
  | _ => none }
def fnOddBackslashesMatchesForwardParityRow : OpenClaim := { program := "qxb6602126a", sum := "b1b15c0a4c6391bd5c18a8654efe380ec613cde419b5739c9d95b6c52b5cdd66", func := "example.com/tallygate/tallygate/zzlaws_jsontext_b1.FnOddBackslashesMatchesForwardParity", spec := "fnOddBackslashesMatchesForwardParity", apart := false }
def FnOddBackslashesMatchesForwardParitySaid : Prop := fnOddBackslashesMatchesForwardParityRow.holds Try.pinned (OpenSpec.ofChange fnOddBackslashesMatchesForwardParitySpec)

/-- ITS FALSE NEIGHBOUR: 'it returns false'. Refute it at one input. -/
def fnOddBackslashesMatchesForwardParityWrong : ChangeSpec := { name := "fnOddBackslashesMatchesForwardParity", fn := fun _ => fun
  | [d1, d2, d3] => { results := [.lit (.bool false)], args := [d1, d2, d3] }
  | _ => none }
def FnOddBackslashesMatchesForwardParityWrongFalsely : Prop := fnOddBackslashesMatchesForwardParityRow.holds Try.pinned (OpenSpec.ofChange fnOddBackslashesMatchesForwardParityWrong)

/-- 'zzlaws_jsontext_b1.FnOddBackslashesComposesOverPieces': WHATEVER THE INPUT: true; the input reads as it did. -/
def fnOddBackslashesComposesOverPiecesSpec : ChangeSpec := { name := "fnOddBackslashesComposesOverPieces", fn := fun _ => fun
  | [d1, d2, d3] => { results := [.lit (.bool true)], args := [d1, d2, d3] }
  | _ => none }
def fnOddBackslashesComposesOverPiecesRow : OpenClaim := { program := "qxb6602126a", sum := "b1b15c0a4c6391bd5c18a8654efe380ec613cde419b5739c9d95b6c52b5cdd66", func := "example.com/tallygate/tallygate/zzlaws_jsontext_b1.FnOddBackslashesComposesOverPieces", spec := "fnOddBackslashesComposesOverPieces", apart := false }
def FnOddBackslashesComposesOverPiecesSaid : Prop := fnOddBackslashesComposesOverPiecesRow.holds Try.pinned (OpenSpec.ofChange fnOddBackslashesComposesOverPiecesSpec)

/-- ITS FALSE NEIGHBOUR: 'it returns false'. Refute it at one input. -/
def fnOddBackslashesComposesOverPiecesWrong : ChangeSpec := { name := "fnOddBackslashesComposesOverPieces", fn := fun _ => fun
  | [d1, d2, d3] => { results := [.lit (.bool false)], args := [d1, d2, d3] }
  | _ => none }
def FnOddBackslashesComposesOverPiecesWrongFalsely : Prop := fnOddBackslashesComposesOverPiecesRow.holds Try.pinned (OpenSpec.ofChange fnOddBackslashesComposesOverPiecesWrong)

/-- 'zzlaws_jsontext_b1.FnReadStringMatchesEscapeAutomaton': WHATEVER THE INPUT: true; the input reads as it did. -/
def fnReadStringMatchesEscapeAutomatonSpec : ChangeSpec := { name := "fnReadStringMatchesEscapeAutomaton", fn := fun _ => fun
  | [d1, d2, d3, d4, d5] => { results := [.lit (.bool true)], args := [d1, d2, d3, d4, d5] }
  | _ => none }
def fnReadStringMatchesEscapeAutomatonRow : OpenClaim := { program := "qxb6602126a", sum := "b1b15c0a4c6391bd5c18a8654efe380ec613cde419b5739c9d95b6c52b5cdd66", func := "example.com/tallygate/tallygate/zzlaws_jsontext_b1.FnReadStringMatchesEscapeAutomaton", spec := "fnReadStringMatchesEscapeAutomaton", inPlace := ["internal/bytealg.IndexByte"], apart := false }
def FnReadStringMatchesEscapeAutomatonSaid : Prop := fnReadStringMatchesEscapeAutomatonRow.holds Try.pinned (OpenSpec.ofChange fnReadStringMatchesEscapeAutomatonSpec)

/-- ITS FALSE NEIGHBOUR: 'it returns false'. Refute it at one input. -/
def fnReadStringMatchesEscapeAutomatonWrong : ChangeSpec := { name := "fnReadStringMatchesEscapeAutomaton", fn := fun _ => fun
  | [d1, d2, d3, d4, d5] => { results := [.lit (.bool false)], args := [d1, d2, d3, d4, d5] }
  | _ => none }
def FnReadStringMatchesEscapeAutomatonWrongFalsely : Prop := fnReadStringMatchesEscapeAutomatonRow.holds Try.pinned (OpenSpec.ofChange fnReadStringMatchesEscapeAutomatonWrong)

/-- 'zzlaws_jsontext_b1.FnReadStringPiecesAgreeWithWhole': WHATEVER THE INPUT: true; the input reads as it did. -/
def fnReadStringPiecesAgreeWithWholeSpec : ChangeSpec := { name := "fnReadStringPiecesAgreeWithWhole", fn := fun _ => fun
  | [d1, d2, d3, d4, d5, d6] => { results := [.lit (.bool true)], args := [d1, d2, d3, d4, d5, d6] }
  | _ => none }
def fnReadStringPiecesAgreeWithWholeRow : OpenClaim := { program := "qxb6602126a", sum := "b1b15c0a4c6391bd5c18a8654efe380ec613cde419b5739c9d95b6c52b5cdd66", func := "example.com/tallygate/tallygate/zzlaws_jsontext_b1.FnReadStringPiecesAgreeWithWhole", spec := "fnReadStringPiecesAgreeWithWhole", inPlace := ["internal/bytealg.IndexByte"], apart := false }
def FnReadStringPiecesAgreeWithWholeSaid : Prop := fnReadStringPiecesAgreeWithWholeRow.holds Try.pinned (OpenSpec.ofChange fnReadStringPiecesAgreeWithWholeSpec)

/-- ITS FALSE NEIGHBOUR: 'it returns false'. Refute it at one input. -/
def fnReadStringPiecesAgreeWithWholeWrong : ChangeSpec := { name := "fnReadStringPiecesAgreeWithWhole", fn := fun _ => fun
  | [d1, d2, d3, d4, d5, d6] => { results := [.lit (.bool false)], args := [d1, d2, d3, d4, d5, d6] }
  | _ => none }
def FnReadStringPiecesAgreeWithWholeWrongFalsely : Prop := fnReadStringPiecesAgreeWithWholeRow.holds Try.pinned (OpenSpec.ofChange fnReadStringPiecesAgreeWithWholeWrong)

/-- 'zzlaws_jsontext_b1.FnReadMatchesTwoPassScan': WHATEVER THE INPUT: true; the input reads as it did. -/
def fnReadMatchesTwoPassScanSpec : ChangeSpec := { name := "fnReadMatchesTwoPassScan", fn := fun _ => fun
  | [d1, d2, d3, d4, d5] => { results := [.lit (.bool true)], args := [d1, d2, d3, d4, d5] }
  | _ => none }
def fnReadMatchesTwoPassScanRow : OpenClaim := { program := "qxb6602126a", sum := "b1b15c0a4c6391bd5c18a8654efe380ec613cde419b5739c9d95b6c52b5cdd66", func := "example.com/tallygate/tallygate/zzlaws_jsontext_b1.FnReadMatchesTwoPassScan", spec := "fnReadMatchesTwoPassScan", inPlace := ["internal/bytealg.IndexByte"], apart := false }
def FnReadMatchesTwoPassScanSaid : Prop := fnReadMatchesTwoPassScanRow.holds Try.pinned (OpenSpec.ofChange fnReadMatchesTwoPassScanSpec)

/-- ITS FALSE NEIGHBOUR: 'it returns false'. Refute it at one input. -/
def fnReadMatchesTwoPassScanWrong : ChangeSpec := { name := "fnReadMatchesTwoPassScan", fn := fun _ => fun
  | [d1, d2, d3, d4, d5] => { results := [.lit (.bool false)], args := [d1, d2, d3, d4, d5] }
  | _ => none }
def FnReadMatchesTwoPassScanWrongFalsely : Prop := fnReadMatchesTwoPassScanRow.holds Try.pinned (OpenSpec.ofChange fnReadMatchesTwoPassScanWrong)

/-- 'zzlaws_jsontext_b1.FnReadPiecesAgreeWithWhole': WHATEVER THE INPUT: true; the input reads as it did. -/
def fnReadPiecesAgreeWithWholeSpec : ChangeSpec := { name := "fnReadPiecesAgreeWithWhole", fn := fun _ => fun
  | [d1, d2, d3, d4, d5, d6] => { results := [.lit (.bool true)], args := [d1, d2, d3, d4, d5, d6] }
  | _ => none }
def fnReadPiecesAgreeWithWholeRow : OpenClaim := { program := "qxb6602126a", sum := "b1b15c0a4c6391bd5c18a8654efe380ec613cde419b5739c9d95b6c52b5cdd66", func := "example.com/tallygate/tallygate/zzlaws_jsontext_b1.FnReadPiecesAgreeWithWhole", spec := "fnReadPiecesAgreeWithWhole", inPlace := ["internal/bytealg.IndexByte"], apart := false }
def FnReadPiecesAgreeWithWholeSaid : Prop := fnReadPiecesAgreeWithWholeRow.holds Try.pinned (OpenSpec.ofChange fnReadPiecesAgreeWithWholeSpec)

/-- ITS FALSE NEIGHBOUR: 'it returns false'. Refute it at one input. -/
def fnReadPiecesAgreeWithWholeWrong : ChangeSpec := { name := "fnReadPiecesAgreeWithWhole", fn := fun _ => fun
  | [d1, d2, d3, d4, d5, d6] => { results := [.lit (.bool false)], args := [d1, d2, d3, d4, d5, d6] }
  | _ => none }
def FnReadPiecesAgreeWithWholeWrongFalsely : Prop := fnReadPiecesAgreeWithWholeRow.holds Try.pinned (OpenSpec.ofChange fnReadPiecesAgreeWithWholeWrong)

end Rows
end Go.Proofs.Qxb6602126a
