/-
  No cell of these rows narrows 'for every input' (looked for: loops, veiled, ifaces, maps, wideKeys, modest, calm, conditions, laid).
  DERIVED. THE GIVEN ROWS OF THIS SEAT. 3 by the template 'for every input the law returns true; each argument reads behind the call as it read before'; 0 by the template 'total and deterministic' (their statements: Qxb6601420aTotals.lean).
  GIVEN WITH THE SEED: the statements are not yours to turn. If you find one false, say at which input.
  Laid BY PROGRAM, IN A SANDBOX (cutbox-rows.mjs): the forced cells as the released guide's own fill.sh prints them over the translation b57fe05120f0a1c4… (all of the seat's roots in one cut). By AI agents, Wed Nov 11 2026. No macro, syntax, notation, axiom, sorry.
-/
import Derived.Test.Qxb6601420aChecked
import GoSem.Claim
import GoSem.ClaimJoined
import GoSem.ClaimMapViews
import Derived.JoinedTies
import Derived.KernelRfl
namespace Go.Proofs.Qxb6601420a
/- THE CELL 'sum', in the pinned program and in every row, IS THE sha256 OF THE DUMP (.gsa) THAT Qxb6601420aProg.lean LOADS. Nothing in Lean hashes anything: it is a label: what it is worth is what the hold of that sum in a sandbox is worth. -/
noncomputable def Try.pinned : Pinned := { name := "qxb6601420a", sum := "b57fe05120f0a1c4b5f9bcd60353d8f5c5721939b56b68b75cd4841e34222af8", checked := Try.checked }
namespace Rows
def none {H : Type} : Left H := { results := [], args := [] }

/-- 'zzlaws_internal_workflow_b1.FnSetHashSplitsOverConcatenation': WHATEVER THE INPUT: true; the input reads as it did. -/
def fnSetHashSplitsOverConcatenationSpec : ChangeSpec := { name := "fnSetHashSplitsOverConcatenation", fn := fun _ => fun
  | [d1, d2] => { results := [.lit (.bool true)], args := [d1, d2] }
  | _ => none }
def fnSetHashSplitsOverConcatenationRow : OpenClaim := { program := "qxb6601420a", sum := "b57fe05120f0a1c4b5f9bcd60353d8f5c5721939b56b68b75cd4841e34222af8", func := "example.com/transition/transition/zzlaws_internal_workflow_b1.FnSetHashSplitsOverConcatenation", spec := "fnSetHashSplitsOverConcatenation", apart := false }
def FnSetHashSplitsOverConcatenationSaid : Prop := fnSetHashSplitsOverConcatenationRow.holds Try.pinned (OpenSpec.ofChange fnSetHashSplitsOverConcatenationSpec)

/-- ITS FALSE NEIGHBOUR: 'it returns false'. Refute it at one input. -/
def fnSetHashSplitsOverConcatenationWrong : ChangeSpec := { name := "fnSetHashSplitsOverConcatenation", fn := fun _ => fun
  | [d1, d2] => { results := [.lit (.bool false)], args := [d1, d2] }
  | _ => none }
def FnSetHashSplitsOverConcatenationWrongFalsely : Prop := fnSetHashSplitsOverConcatenationRow.holds Try.pinned (OpenSpec.ofChange fnSetHashSplitsOverConcatenationWrong)

/-- 'zzlaws_internal_workflow_b1.FnSetHashSingletonRoundTrip': WHATEVER THE INPUT: true; the input reads as it did. -/
def fnSetHashSingletonRoundTripSpec : ChangeSpec := { name := "fnSetHashSingletonRoundTrip", fn := fun _ => fun
  | [d] => { results := [.lit (.bool true)], args := [d] }
  | _ => none }
def fnSetHashSingletonRoundTripRow : OpenClaim := { program := "qxb6601420a", sum := "b57fe05120f0a1c4b5f9bcd60353d8f5c5721939b56b68b75cd4841e34222af8", func := "example.com/transition/transition/zzlaws_internal_workflow_b1.FnSetHashSingletonRoundTrip", spec := "fnSetHashSingletonRoundTrip", apart := false }
def FnSetHashSingletonRoundTripSaid : Prop := fnSetHashSingletonRoundTripRow.holds Try.pinned (OpenSpec.ofChange fnSetHashSingletonRoundTripSpec)

/-- ITS FALSE NEIGHBOUR: 'it returns false'. Refute it at one input. -/
def fnSetHashSingletonRoundTripWrong : ChangeSpec := { name := "fnSetHashSingletonRoundTrip", fn := fun _ => fun
  | [d] => { results := [.lit (.bool false)], args := [d] }
  | _ => none }
def FnSetHashSingletonRoundTripWrongFalsely : Prop := fnSetHashSingletonRoundTripRow.holds Try.pinned (OpenSpec.ofChange fnSetHashSingletonRoundTripWrong)

/-- 'zzlaws_internal_workflow_b1.FnSetHashOrderFree': WHATEVER THE INPUT: true; the input reads as it did. -/
def fnSetHashOrderFreeSpec : ChangeSpec := { name := "fnSetHashOrderFree", fn := fun _ => fun
  | [d1, d2, d3] => { results := [.lit (.bool true)], args := [d1, d2, d3] }
  | _ => none }
def fnSetHashOrderFreeRow : OpenClaim := { program := "qxb6601420a", sum := "b57fe05120f0a1c4b5f9bcd60353d8f5c5721939b56b68b75cd4841e34222af8", func := "example.com/transition/transition/zzlaws_internal_workflow_b1.FnSetHashOrderFree", spec := "fnSetHashOrderFree", apart := false }
def FnSetHashOrderFreeSaid : Prop := fnSetHashOrderFreeRow.holds Try.pinned (OpenSpec.ofChange fnSetHashOrderFreeSpec)

/-- ITS FALSE NEIGHBOUR: 'it returns false'. Refute it at one input. -/
def fnSetHashOrderFreeWrong : ChangeSpec := { name := "fnSetHashOrderFree", fn := fun _ => fun
  | [d1, d2, d3] => { results := [.lit (.bool false)], args := [d1, d2, d3] }
  | _ => none }
def FnSetHashOrderFreeWrongFalsely : Prop := fnSetHashOrderFreeRow.holds Try.pinned (OpenSpec.ofChange fnSetHashOrderFreeWrong)

end Rows
end Go.Proofs.Qxb6601420a
