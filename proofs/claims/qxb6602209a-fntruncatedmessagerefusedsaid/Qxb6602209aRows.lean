/-
  No cell of these rows narrows 'for every input' (looked for: loops, veiled, ifaces, maps, wideKeys, modest, calm, conditions, laid).
  DERIVED. THE GIVEN ROWS OF THIS SEAT. 3 by the template 'for every input the law returns true; each argument reads behind the call as it read before'; 0 by the template 'total and deterministic' (their statements: Qxb6602209aTotals.lean).
  GIVEN WITH THE SEED: the statements are not yours to turn. If you find one false, say at which input.
  Laid BY PROGRAM, IN A SANDBOX (cutbox-rows.mjs): the forced cells as the released guide's own fill.sh prints them over the translation 63db4984dc58a2c7… (all of the seat's roots in one cut). By AI agents, Wed Nov 11 2026. No macro, syntax, notation, axiom, sorry.
-/
import Derived.Test.Qxb6602209aChecked
import GoSem.Claim
import GoSem.ClaimJoined
import GoSem.ClaimMapViews
import Derived.JoinedTies
import Derived.KernelRfl
namespace Go.Proofs.Qxb6602209a
/- THE CELL 'sum', in the pinned program and in every row, IS THE sha256 OF THE DUMP (.gsa) THAT Qxb6602209aProg.lean LOADS. Nothing in Lean hashes anything: it is a label: what it is worth is what the hold of that sum in a sandbox is worth. -/
noncomputable def Try.pinned : Pinned := { name := "qxb6602209a", sum := "63db4984dc58a2c74ce61a54d2367bf9cc78955f42ee593b130f88a307ee004d", checked := Try.checked }
namespace Rows
def none {H : Type} : Left H := { results := [], args := [] }

/-- 'zzlaws_internal_smpp_b1.FnMessageRoundTrip': WHATEVER THE INPUT: true; the input reads as it did. -/
def fnMessageRoundTripSpec : ChangeSpec := { name := "fnMessageRoundTrip", fn := fun _ => fun
  | [d1, d2] => { results := [.lit (.bool true)], args := [d1, d2] }
  | _ => none }
def fnMessageRoundTripRow : OpenClaim := { program := "qxb6602209a", sum := "63db4984dc58a2c74ce61a54d2367bf9cc78955f42ee593b130f88a307ee004d", func := "example.com/bindwire/bindwire/zzlaws_internal_smpp_b1.FnMessageRoundTrip", spec := "fnMessageRoundTrip", inPlace := ["internal/bytealg.IndexByte"], apart := false }
def FnMessageRoundTripSaid : Prop := fnMessageRoundTripRow.holds Try.pinned (OpenSpec.ofChange fnMessageRoundTripSpec)

/-- ITS FALSE NEIGHBOUR: 'it returns false'. Refute it at one input. -/
def fnMessageRoundTripWrong : ChangeSpec := { name := "fnMessageRoundTrip", fn := fun _ => fun
  | [d1, d2] => { results := [.lit (.bool false)], args := [d1, d2] }
  | _ => none }
def FnMessageRoundTripWrongFalsely : Prop := fnMessageRoundTripRow.holds Try.pinned (OpenSpec.ofChange fnMessageRoundTripWrong)

/-- 'zzlaws_internal_smpp_b1.FnTruncatedMessageRefused': WHATEVER THE INPUT: true; the input reads as it did. -/
def fnTruncatedMessageRefusedSpec : ChangeSpec := { name := "fnTruncatedMessageRefused", fn := fun _ => fun
  | [d1, d2] => { results := [.lit (.bool true)], args := [d1, d2] }
  | _ => none }
def fnTruncatedMessageRefusedRow : OpenClaim := { program := "qxb6602209a", sum := "63db4984dc58a2c74ce61a54d2367bf9cc78955f42ee593b130f88a307ee004d", func := "example.com/bindwire/bindwire/zzlaws_internal_smpp_b1.FnTruncatedMessageRefused", spec := "fnTruncatedMessageRefused", inPlace := ["internal/bytealg.IndexByte"], apart := false }
def FnTruncatedMessageRefusedSaid : Prop := fnTruncatedMessageRefusedRow.holds Try.pinned (OpenSpec.ofChange fnTruncatedMessageRefusedSpec)

/-- ITS FALSE NEIGHBOUR: 'it returns false'. Refute it at one input. -/
def fnTruncatedMessageRefusedWrong : ChangeSpec := { name := "fnTruncatedMessageRefused", fn := fun _ => fun
  | [d1, d2] => { results := [.lit (.bool false)], args := [d1, d2] }
  | _ => none }
def FnTruncatedMessageRefusedWrongFalsely : Prop := fnTruncatedMessageRefusedRow.holds Try.pinned (OpenSpec.ofChange fnTruncatedMessageRefusedWrong)

/-- 'zzlaws_internal_smpp_b1.FnCStringSpec': WHATEVER THE INPUT: true; the input reads as it did. -/
def fnCStringSpecSpec : ChangeSpec := { name := "fnCStringSpec", fn := fun _ => fun
  | [d1, d2, d3, d4, d5, d6] => { results := [.lit (.bool true)], args := [d1, d2, d3, d4, d5, d6] }
  | _ => none }
def fnCStringSpecRow : OpenClaim := { program := "qxb6602209a", sum := "63db4984dc58a2c74ce61a54d2367bf9cc78955f42ee593b130f88a307ee004d", func := "example.com/bindwire/bindwire/zzlaws_internal_smpp_b1.FnCStringSpec", spec := "fnCStringSpec", inPlace := ["internal/bytealg.IndexByte"], apart := false }
def FnCStringSpecSaid : Prop := fnCStringSpecRow.holds Try.pinned (OpenSpec.ofChange fnCStringSpecSpec)

/-- ITS FALSE NEIGHBOUR: 'it returns false'. Refute it at one input. -/
def fnCStringSpecWrong : ChangeSpec := { name := "fnCStringSpec", fn := fun _ => fun
  | [d1, d2, d3, d4, d5, d6] => { results := [.lit (.bool false)], args := [d1, d2, d3, d4, d5, d6] }
  | _ => none }
def FnCStringSpecWrongFalsely : Prop := fnCStringSpecRow.holds Try.pinned (OpenSpec.ofChange fnCStringSpecWrong)

end Rows
end Go.Proofs.Qxb6602209a
