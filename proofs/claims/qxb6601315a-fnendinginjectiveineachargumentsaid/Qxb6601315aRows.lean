/-
  No cell of these rows narrows 'for every input' (looked for: loops, veiled, ifaces, maps, wideKeys, modest, calm, conditions, laid).
  DERIVED. THE GIVEN ROWS OF THIS SEAT. 2 by the template 'for every input the law returns true; each argument reads behind the call as it read before'; 0 by the template 'total and deterministic' (their statements: Qxb6601315aTotals.lean).
  GIVEN WITH THE SEED: the statements are not yours to turn. If you find one false, say at which input.
  Laid BY PROGRAM, IN A SANDBOX (cutbox-rows.mjs): the forced cells as the released guide's own fill.sh prints them over the translation cb63b8bdf269b5d8… (all of the seat's roots in one cut). By AI agents, Wed Nov 11 2026. No macro, syntax, notation, axiom, sorry.
-/
import Derived.Test.Qxb6601315aChecked
import GoSem.Claim
import GoSem.ClaimJoined
import GoSem.ClaimMapViews
import Derived.JoinedTies
import Derived.KernelRfl
namespace Go.Proofs.Qxb6601315a
/- THE CELL 'sum', in the pinned program and in every row, IS THE sha256 OF THE DUMP (.gsa) THAT Qxb6601315aProg.lean LOADS. Nothing in Lean hashes anything: it is a label: what it is worth is what the hold of that sum in a sandbox is worth. -/
noncomputable def Try.pinned : Pinned := { name := "qxb6601315a", sum := "cb63b8bdf269b5d8724f63690d8a89dd31345398cfcfc663653ed82f48bf5129", checked := Try.checked }
namespace Rows
def none {H : Type} : Left H := { results := [], args := [] }

/-- 'zzlaws_internal_scenario_b1.FnOrNoneIdempotentNeverEmpty': WHATEVER THE INPUT: true; the input reads as it did. -/
def fnOrNoneIdempotentNeverEmptySpec : ChangeSpec := { name := "fnOrNoneIdempotentNeverEmpty", fn := fun _ => fun
  | [d] => { results := [.lit (.bool true)], args := [d] }
  | _ => none }
def fnOrNoneIdempotentNeverEmptyRow : OpenClaim := { program := "qxb6601315a", sum := "cb63b8bdf269b5d8724f63690d8a89dd31345398cfcfc663653ed82f48bf5129", func := "example.com/entente/entente/zzlaws_internal_scenario_b1.FnOrNoneIdempotentNeverEmpty", spec := "fnOrNoneIdempotentNeverEmpty", apart := false }
def FnOrNoneIdempotentNeverEmptySaid : Prop := fnOrNoneIdempotentNeverEmptyRow.holds Try.pinned (OpenSpec.ofChange fnOrNoneIdempotentNeverEmptySpec)

/-- ITS FALSE NEIGHBOUR: 'it returns false'. Refute it at one input. -/
def fnOrNoneIdempotentNeverEmptyWrong : ChangeSpec := { name := "fnOrNoneIdempotentNeverEmpty", fn := fun _ => fun
  | [d] => { results := [.lit (.bool false)], args := [d] }
  | _ => none }
def FnOrNoneIdempotentNeverEmptyWrongFalsely : Prop := fnOrNoneIdempotentNeverEmptyRow.holds Try.pinned (OpenSpec.ofChange fnOrNoneIdempotentNeverEmptyWrong)

/-- 'zzlaws_internal_scenario_b1.FnEndingInjectiveInEachArgument': WHATEVER THE INPUT: true; the input reads as it did. -/
def fnEndingInjectiveInEachArgumentSpec : ChangeSpec := { name := "fnEndingInjectiveInEachArgument", fn := fun _ => fun
  | [d1, d2, d3, d4] => { results := [.lit (.bool true)], args := [d1, d2, d3, d4] }
  | _ => none }
def fnEndingInjectiveInEachArgumentRow : OpenClaim := { program := "qxb6601315a", sum := "cb63b8bdf269b5d8724f63690d8a89dd31345398cfcfc663653ed82f48bf5129", func := "example.com/entente/entente/zzlaws_internal_scenario_b1.FnEndingInjectiveInEachArgument", spec := "fnEndingInjectiveInEachArgument", apart := false }
def FnEndingInjectiveInEachArgumentSaid : Prop := fnEndingInjectiveInEachArgumentRow.holds Try.pinned (OpenSpec.ofChange fnEndingInjectiveInEachArgumentSpec)

/-- ITS FALSE NEIGHBOUR: 'it returns false'. Refute it at one input. -/
def fnEndingInjectiveInEachArgumentWrong : ChangeSpec := { name := "fnEndingInjectiveInEachArgument", fn := fun _ => fun
  | [d1, d2, d3, d4] => { results := [.lit (.bool false)], args := [d1, d2, d3, d4] }
  | _ => none }
def FnEndingInjectiveInEachArgumentWrongFalsely : Prop := fnEndingInjectiveInEachArgumentRow.holds Try.pinned (OpenSpec.ofChange fnEndingInjectiveInEachArgumentWrong)

end Rows
end Go.Proofs.Qxb6601315a
