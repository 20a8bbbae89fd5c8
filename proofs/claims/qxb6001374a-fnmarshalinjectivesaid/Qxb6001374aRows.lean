/-
  No cell of these rows narrows 'for every input' (looked for: loops, veiled, ifaces, maps, wideKeys, modest, calm, conditions, laid).
  DERIVED. THE GIVEN ROWS OF THIS SEAT. 4 by the template 'for every input the law returns true; each argument reads behind the call as it read before'; 0 by the template 'total and deterministic' (their statements: Qxb6001374aTotals.lean).
  GIVEN WITH THE SEED: the statements are not yours to turn. If you find one false, say at which input.
  Laid BY PROGRAM, IN A SANDBOX (cutbox-rows.mjs): the forced cells as the released guide's own fill.sh prints them over the translation acb3d0f5b6cd533e… (all of the seat's roots in one cut). By AI agents, Wed Nov 11 2026. No macro, syntax, notation, axiom, sorry.
-/
import Derived.Test.Qxb6001374aChecked
import GoSem.Claim
import GoSem.ClaimJoined
import GoSem.ClaimMapViews
import Derived.JoinedTies
import Derived.KernelRfl
namespace Go.Proofs.Qxb6001374a
/- THE CELL 'sum', in the pinned program and in every row, IS THE sha256 OF THE DUMP (.gsa) THAT Qxb6001374aProg.lean LOADS. Nothing in Lean hashes anything: it is a label: what it is worth is what the hold of that sum in a sandbox is worth. -/
noncomputable def Try.pinned : Pinned := { name := "qxb6001374a", sum := "acb3d0f5b6cd533e0a49a5a8fbf4b51baadafa1e104e6120fc7682db48f16b59", checked := Try.checked }
namespace Rows
def none {H : Type} : Left H := { results := [], args := [] }

/-- 'zzlaws_protocol_b1.FnMarshalRoundTrip': WHATEVER THE INPUT: true; the input reads as it did. -/
def fnMarshalRoundTripSpec : ChangeSpec := { name := "fnMarshalRoundTrip", fn := fun _ => fun
  | [d1, d2] => { results := [.lit (.bool true)], args := [d1, d2] }
  | _ => none }
def fnMarshalRoundTripRow : OpenClaim := { program := "qxb6001374a", sum := "acb3d0f5b6cd533e0a49a5a8fbf4b51baadafa1e104e6120fc7682db48f16b59", func := "example.com/parrel/parrel/zzlaws_protocol_b1.FnMarshalRoundTrip", spec := "fnMarshalRoundTrip", apart := false }
def FnMarshalRoundTripSaid : Prop := fnMarshalRoundTripRow.holds Try.pinned (OpenSpec.ofChange fnMarshalRoundTripSpec)

/-- ITS FALSE NEIGHBOUR: 'it returns false'. Refute it at one input. -/
def fnMarshalRoundTripWrong : ChangeSpec := { name := "fnMarshalRoundTrip", fn := fun _ => fun
  | [d1, d2] => { results := [.lit (.bool false)], args := [d1, d2] }
  | _ => none }
def FnMarshalRoundTripWrongFalsely : Prop := fnMarshalRoundTripRow.holds Try.pinned (OpenSpec.ofChange fnMarshalRoundTripWrong)

/-- 'zzlaws_protocol_b1.FnMarshalInjective': WHATEVER THE INPUT: true; the input reads as it did. -/
def fnMarshalInjectiveSpec : ChangeSpec := { name := "fnMarshalInjective", fn := fun _ => fun
  | [d1, d2, d3, d4] => { results := [.lit (.bool true)], args := [d1, d2, d3, d4] }
  | _ => none }
def fnMarshalInjectiveRow : OpenClaim := { program := "qxb6001374a", sum := "acb3d0f5b6cd533e0a49a5a8fbf4b51baadafa1e104e6120fc7682db48f16b59", func := "example.com/parrel/parrel/zzlaws_protocol_b1.FnMarshalInjective", spec := "fnMarshalInjective", apart := false }
def FnMarshalInjectiveSaid : Prop := fnMarshalInjectiveRow.holds Try.pinned (OpenSpec.ofChange fnMarshalInjectiveSpec)

/-- ITS FALSE NEIGHBOUR: 'it returns false'. Refute it at one input. -/
def fnMarshalInjectiveWrong : ChangeSpec := { name := "fnMarshalInjective", fn := fun _ => fun
  | [d1, d2, d3, d4] => { results := [.lit (.bool false)], args := [d1, d2, d3, d4] }
  | _ => none }
def FnMarshalInjectiveWrongFalsely : Prop := fnMarshalInjectiveRow.holds Try.pinned (OpenSpec.ofChange fnMarshalInjectiveWrong)

/-- 'zzlaws_protocol_b1.FnCodeAgreesWithMarshal': WHATEVER THE INPUT: true; the input reads as it did. -/
def fnCodeAgreesWithMarshalSpec : ChangeSpec := { name := "fnCodeAgreesWithMarshal", fn := fun _ => fun
  | [d1, d2] => { results := [.lit (.bool true)], args := [d1, d2] }
  | _ => none }
def fnCodeAgreesWithMarshalRow : OpenClaim := { program := "qxb6001374a", sum := "acb3d0f5b6cd533e0a49a5a8fbf4b51baadafa1e104e6120fc7682db48f16b59", func := "example.com/parrel/parrel/zzlaws_protocol_b1.FnCodeAgreesWithMarshal", spec := "fnCodeAgreesWithMarshal", apart := false }
def FnCodeAgreesWithMarshalSaid : Prop := fnCodeAgreesWithMarshalRow.holds Try.pinned (OpenSpec.ofChange fnCodeAgreesWithMarshalSpec)

/-- ITS FALSE NEIGHBOUR: 'it returns false'. Refute it at one input. -/
def fnCodeAgreesWithMarshalWrong : ChangeSpec := { name := "fnCodeAgreesWithMarshal", fn := fun _ => fun
  | [d1, d2] => { results := [.lit (.bool false)], args := [d1, d2] }
  | _ => none }
def FnCodeAgreesWithMarshalWrongFalsely : Prop := fnCodeAgreesWithMarshalRow.holds Try.pinned (OpenSpec.ofChange fnCodeAgreesWithMarshalWrong)

/-- 'zzlaws_protocol_b1.FnCodeOrder': WHATEVER THE INPUT: true; the input reads as it did. -/
def fnCodeOrderSpec : ChangeSpec := { name := "fnCodeOrder", fn := fun _ => fun
  | [d1, d2, d3] => { results := [.lit (.bool true)], args := [d1, d2, d3] }
  | _ => none }
def fnCodeOrderRow : OpenClaim := { program := "qxb6001374a", sum := "acb3d0f5b6cd533e0a49a5a8fbf4b51baadafa1e104e6120fc7682db48f16b59", func := "example.com/parrel/parrel/zzlaws_protocol_b1.FnCodeOrder", spec := "fnCodeOrder", apart := false }
def FnCodeOrderSaid : Prop := fnCodeOrderRow.holds Try.pinned (OpenSpec.ofChange fnCodeOrderSpec)

/-- ITS FALSE NEIGHBOUR: 'it returns false'. Refute it at one input. -/
def fnCodeOrderWrong : ChangeSpec := { name := "fnCodeOrder", fn := fun _ => fun
  | [d1, d2, d3] => { results := [.lit (.bool false)], args := [d1, d2, d3] }
  | _ => none }
def FnCodeOrderWrongFalsely : Prop := fnCodeOrderRow.holds Try.pinned (OpenSpec.ofChange fnCodeOrderWrong)

end Rows
end Go.Proofs.Qxb6001374a
