/-
  No cell of these rows narrows 'for every input' (looked for: loops, veiled, ifaces, maps, wideKeys, modest, calm, conditions, laid).
  DERIVED. THE GIVEN ROWS OF THIS SEAT. 4 by the template 'for every input the law returns true; each argument reads behind the call as it read before'; 0 by the template 'total and deterministic' (their statements: Qxb6602098aTotals.lean).
  GIVEN WITH THE SEED: the statements are not yours to turn. If you find one false, say at which input.
  Laid BY PROGRAM, IN A SANDBOX (cutbox-rows.mjs): the forced cells as the released guide's own fill.sh prints them over the translation fc3e0ba99760ac9b… (all of the seat's roots in one cut). By AI agents, Wed Nov 11 2026. No macro, syntax, notation, axiom, sorry.
-/
import Derived.Test.Qxb6602098aChecked
import GoSem.Claim
import GoSem.ClaimJoined
import GoSem.ClaimMapViews
import Derived.JoinedTies
import Derived.KernelRfl
namespace Go.Proofs.Qxb6602098a
/- THE CELL 'sum', in the pinned program and in every row, IS THE sha256 OF THE DUMP (.gsa) THAT Qxb6602098aProg.lean LOADS. Nothing in Lean hashes anything: it is a label: what it is worth is what the hold of that sum in a sandbox is worth. -/
noncomputable def Try.pinned : Pinned := { name := "qxb6602098a", sum := "fc3e0ba99760ac9b7000a6c5621f36be8c9488c04d2eb9b6ee4f430b7b253ade", checked := Try.checked }
namespace Rows
def none {H : Type} : Left H := { results := [], args := [] }

/-- 'zzlaws_internal_lastvalue_b1.FnStringEndMatchesScanner': WHATEVER THE INPUT: true; the input reads as it did. -/
def fnStringEndMatchesScannerSpec : ChangeSpec := { name := "fnStringEndMatchesScanner", fn := fun _ => fun
  | [d1, d2] => { results := [.lit (.bool true)], args := [d1, d2] }
  | _ => none }
def fnStringEndMatchesScannerRow : OpenClaim := { program := "qxb6602098a", sum := "fc3e0ba99760ac9b7000a6c5621f36be8c9488c04d2eb9b6ee4f430b7b253ade", func := "example.com/reprise/reprise/zzlaws_internal_lastvalue_b1.FnStringEndMatchesScanner", spec := "fnStringEndMatchesScanner", inPlace := ["internal/bytealg.IndexByte"], apart := false }
def FnStringEndMatchesScannerSaid : Prop := fnStringEndMatchesScannerRow.holds Try.pinned (OpenSpec.ofChange fnStringEndMatchesScannerSpec)

/-- ITS FALSE NEIGHBOUR: 'it returns false'. Refute it at one input. -/
def fnStringEndMatchesScannerWrong : ChangeSpec := { name := "fnStringEndMatchesScanner", fn := fun _ => fun
  | [d1, d2] => { results := [.lit (.bool false)], args := [d1, d2] }
  | _ => none }
def FnStringEndMatchesScannerWrongFalsely : Prop := fnStringEndMatchesScannerRow.holds Try.pinned (OpenSpec.ofChange fnStringEndMatchesScannerWrong)

/-- 'zzlaws_internal_lastvalue_b1.FnStringEndIgnoresBytesAfterItsEnd': WHATEVER THE INPUT: true; the input reads as it did. -/
def fnStringEndIgnoresBytesAfterItsEndSpec : ChangeSpec := { name := "fnStringEndIgnoresBytesAfterItsEnd", fn := fun _ => fun
  | [d1, d2, d3] => { results := [.lit (.bool true)], args := [d1, d2, d3] }
  | _ => none }
def fnStringEndIgnoresBytesAfterItsEndRow : OpenClaim := { program := "qxb6602098a", sum := "fc3e0ba99760ac9b7000a6c5621f36be8c9488c04d2eb9b6ee4f430b7b253ade", func := "example.com/reprise/reprise/zzlaws_internal_lastvalue_b1.FnStringEndIgnoresBytesAfterItsEnd", spec := "fnStringEndIgnoresBytesAfterItsEnd", inPlace := ["internal/bytealg.IndexByte"], apart := false }
def FnStringEndIgnoresBytesAfterItsEndSaid : Prop := fnStringEndIgnoresBytesAfterItsEndRow.holds Try.pinned (OpenSpec.ofChange fnStringEndIgnoresBytesAfterItsEndSpec)

/-- ITS FALSE NEIGHBOUR: 'it returns false'. Refute it at one input. -/
def fnStringEndIgnoresBytesAfterItsEndWrong : ChangeSpec := { name := "fnStringEndIgnoresBytesAfterItsEnd", fn := fun _ => fun
  | [d1, d2, d3] => { results := [.lit (.bool false)], args := [d1, d2, d3] }
  | _ => none }
def FnStringEndIgnoresBytesAfterItsEndWrongFalsely : Prop := fnStringEndIgnoresBytesAfterItsEndRow.holds Try.pinned (OpenSpec.ofChange fnStringEndIgnoresBytesAfterItsEndWrong)

/-- 'zzlaws_internal_lastvalue_b1.FnMemberEndMatchesParser': WHATEVER THE INPUT: true; the input reads as it did. -/
def fnMemberEndMatchesParserSpec : ChangeSpec := { name := "fnMemberEndMatchesParser", fn := fun _ => fun
  | [d1, d2] => { results := [.lit (.bool true)], args := [d1, d2] }
  | _ => none }
def fnMemberEndMatchesParserRow : OpenClaim := { program := "qxb6602098a", sum := "fc3e0ba99760ac9b7000a6c5621f36be8c9488c04d2eb9b6ee4f430b7b253ade", func := "example.com/reprise/reprise/zzlaws_internal_lastvalue_b1.FnMemberEndMatchesParser", spec := "fnMemberEndMatchesParser", inPlace := ["internal/bytealg.IndexByte"], recurses := true, apart := false }
def FnMemberEndMatchesParserSaid : Prop := fnMemberEndMatchesParserRow.holds Try.pinned (OpenSpec.ofChange fnMemberEndMatchesParserSpec)

/-- ITS FALSE NEIGHBOUR: 'it returns false'. Refute it at one input. -/
def fnMemberEndMatchesParserWrong : ChangeSpec := { name := "fnMemberEndMatchesParser", fn := fun _ => fun
  | [d1, d2] => { results := [.lit (.bool false)], args := [d1, d2] }
  | _ => none }
def FnMemberEndMatchesParserWrongFalsely : Prop := fnMemberEndMatchesParserRow.holds Try.pinned (OpenSpec.ofChange fnMemberEndMatchesParserWrong)

/-- 'zzlaws_internal_lastvalue_b1.FnMemberEndIgnoresBytesAfterItsAnswer': WHATEVER THE INPUT: true; the input reads as it did. -/
def fnMemberEndIgnoresBytesAfterItsAnswerSpec : ChangeSpec := { name := "fnMemberEndIgnoresBytesAfterItsAnswer", fn := fun _ => fun
  | [d1, d2, d3] => { results := [.lit (.bool true)], args := [d1, d2, d3] }
  | _ => none }
def fnMemberEndIgnoresBytesAfterItsAnswerRow : OpenClaim := { program := "qxb6602098a", sum := "fc3e0ba99760ac9b7000a6c5621f36be8c9488c04d2eb9b6ee4f430b7b253ade", func := "example.com/reprise/reprise/zzlaws_internal_lastvalue_b1.FnMemberEndIgnoresBytesAfterItsAnswer", spec := "fnMemberEndIgnoresBytesAfterItsAnswer", inPlace := ["internal/bytealg.IndexByte"], recurses := true, apart := false }
def FnMemberEndIgnoresBytesAfterItsAnswerSaid : Prop := fnMemberEndIgnoresBytesAfterItsAnswerRow.holds Try.pinned (OpenSpec.ofChange fnMemberEndIgnoresBytesAfterItsAnswerSpec)

/-- ITS FALSE NEIGHBOUR: 'it returns false'. Refute it at one input. -/
def fnMemberEndIgnoresBytesAfterItsAnswerWrong : ChangeSpec := { name := "fnMemberEndIgnoresBytesAfterItsAnswer", fn := fun _ => fun
  | [d1, d2, d3] => { results := [.lit (.bool false)], args := [d1, d2, d3] }
  | _ => none }
def FnMemberEndIgnoresBytesAfterItsAnswerWrongFalsely : Prop := fnMemberEndIgnoresBytesAfterItsAnswerRow.holds Try.pinned (OpenSpec.ofChange fnMemberEndIgnoresBytesAfterItsAnswerWrong)

end Rows
end Go.Proofs.Qxb6602098a
