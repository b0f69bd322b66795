/-
  No cell of these rows narrows 'for every input' (looked for: loops, veiled, ifaces, maps, wideKeys, modest, calm, conditions, laid).
  DERIVED. THE GIVEN ROWS OF THIS SEAT. 2 by the template 'for every input the law returns true; each argument reads behind the call as it read before'; 0 by the template 'total and deterministic' (their statements: Qxb6602078aTotals.lean).
  GIVEN WITH THE SEED: the statements are not yours to turn. If you find one false, say at which input.
  Laid BY PROGRAM, IN A SANDBOX (cutbox-rows.mjs): the forced cells as the released guide's own fill.sh prints them over the translation c4deefc00fef3b79… (all of the seat's roots in one cut). By AI agents, Wed Nov 11 2026. No macro, syntax, notation, axiom, sorry.
-/
import Derived.Test.Qxb6602078aChecked
import GoSem.Claim
import GoSem.ClaimJoined
import GoSem.ClaimMapViews
import Derived.JoinedTies
import Derived.KernelRfl
namespace Go.Proofs.Qxb6602078a
/- THE CELL 'sum', in the pinned program and in every row, IS THE sha256 OF THE DUMP (.gsa) THAT Qxb6602078aProg.lean LOADS. Nothing in Lean hashes anything: it is a label: what it is worth is what the hold of that sum in a sandbox is worth. -/
noncomputable def Try.pinned : Pinned := { name := "qxb6602078a", sum := "c4deefc00fef3b79849af07792d77df7b56bd80abb1a53208d6e9b1d79f7b9f1", checked := Try.checked }
namespace Rows
def none {H : Type} : Left H := { results := [], args := [] }

/-- 'zzlaws_pkg_instance_b1.FnStringEndMatchesForwardScanner': WHATEVER THE INPUT: true; the input reads as it did. -/
def fnStringEndMatchesForwardScannerSpec : ChangeSpec := { name := "fnStringEndMatchesForwardScanner", fn := fun _ => fun
  | [d1, d2] => { results := [.lit (.bool true)], args := [d1, d2] }
  | _ => none }
def fnStringEndMatchesForwardScannerRow : OpenClaim := { program := "qxb6602078a", sum := "c4deefc00fef3b79849af07792d77df7b56bd80abb1a53208d6e9b1d79f7b9f1", func := "example.com/backstitch/backstitch/zzlaws_pkg_instance_b1.FnStringEndMatchesForwardScanner", spec := "fnStringEndMatchesForwardScanner", inPlace := ["internal/bytealg.IndexByte"], apart := false }
def FnStringEndMatchesForwardScannerSaid : Prop := fnStringEndMatchesForwardScannerRow.holds Try.pinned (OpenSpec.ofChange fnStringEndMatchesForwardScannerSpec)

/-- ITS FALSE NEIGHBOUR: 'it returns false'. Refute it at one input. -/
def fnStringEndMatchesForwardScannerWrong : ChangeSpec := { name := "fnStringEndMatchesForwardScanner", fn := fun _ => fun
  | [d1, d2] => { results := [.lit (.bool false)], args := [d1, d2] }
  | _ => none }
def FnStringEndMatchesForwardScannerWrongFalsely : Prop := fnStringEndMatchesForwardScannerRow.holds Try.pinned (OpenSpec.ofChange fnStringEndMatchesForwardScannerWrong)

/-- 'zzlaws_pkg_instance_b1.FnStringEndDependsOnlyOnPrefix': WHATEVER THE INPUT: true; the input reads as it did. -/
def fnStringEndDependsOnlyOnPrefixSpec : ChangeSpec := { name := "fnStringEndDependsOnlyOnPrefix", fn := fun _ => fun
  | [d1, d2, d3] => { results := [.lit (.bool true)], args := [d1, d2, d3] }
  | _ => none }
def fnStringEndDependsOnlyOnPrefixRow : OpenClaim := { program := "qxb6602078a", sum := "c4deefc00fef3b79849af07792d77df7b56bd80abb1a53208d6e9b1d79f7b9f1", func := "example.com/backstitch/backstitch/zzlaws_pkg_instance_b1.FnStringEndDependsOnlyOnPrefix", spec := "fnStringEndDependsOnlyOnPrefix", inPlace := ["internal/bytealg.IndexByte"], apart := false }
def FnStringEndDependsOnlyOnPrefixSaid : Prop := fnStringEndDependsOnlyOnPrefixRow.holds Try.pinned (OpenSpec.ofChange fnStringEndDependsOnlyOnPrefixSpec)

/-- ITS FALSE NEIGHBOUR: 'it returns false'. Refute it at one input. -/
def fnStringEndDependsOnlyOnPrefixWrong : ChangeSpec := { name := "fnStringEndDependsOnlyOnPrefix", fn := fun _ => fun
  | [d1, d2, d3] => { results := [.lit (.bool false)], args := [d1, d2, d3] }
  | _ => none }
def FnStringEndDependsOnlyOnPrefixWrongFalsely : Prop := fnStringEndDependsOnlyOnPrefixRow.holds Try.pinned (OpenSpec.ofChange fnStringEndDependsOnlyOnPrefixWrong)

end Rows
end Go.Proofs.Qxb6602078a
