/-
  No cell of these rows narrows 'for every input' (looked for: loops, veiled, ifaces, maps, wideKeys, modest, calm, conditions, laid).
  DERIVED. THE GIVEN ROWS OF THIS SEAT. 5 by the template 'for every input the law returns true; each argument reads behind the call as it read before'; 0 by the template 'total and deterministic' (their statements: Qxb6001000aTotals.lean).
  GIVEN WITH THE SEED: the statements are not yours to turn. If you find one false, say at which input.
  Laid BY PROGRAM, IN A SANDBOX (cutbox-rows.mjs): the forced cells as the released guide's own fill.sh prints them over the translation cef3411c2510ad37… (all of the seat's roots in one cut). By AI agents, Wed Nov 11 2026. No macro, syntax, notation, axiom, sorry.
-/
import Derived.Test.Qxb6001000aChecked
import GoSem.Claim
import GoSem.ClaimJoined
import GoSem.ClaimMapViews
import Derived.JoinedTies
import Derived.KernelRfl
namespace Go.Proofs.Qxb6001000a
/- THE CELL 'sum', in the pinned program and in every row, IS THE sha256 OF THE DUMP (.gsa) THAT Qxb6001000aProg.lean LOADS. Nothing in Lean hashes anything: it is a label: what it is worth is what the hold of that sum in a sandbox is worth. -/
noncomputable def Try.pinned : Pinned := { name := "qxb6001000a", sum := "cef3411c2510ad37a291562ecdd6d72543381a8c9ad8006a3805e91a95cba7a6", checked := Try.checked }
namespace Rows
def none {H : Type} : Left H := { results := [], args := [] }

/-- 'zzlaws_internal_review_b1.FnSkipSpaceStopsAtFirstNonSpace': WHATEVER THE INPUT: true; the input reads as it did. -/
def fnSkipSpaceStopsAtFirstNonSpaceSpec : ChangeSpec := { name := "fnSkipSpaceStopsAtFirstNonSpace", fn := fun _ => fun
  | [d1, d2] => { results := [.lit (.bool true)], args := [d1, d2] }
  | _ => none }
def fnSkipSpaceStopsAtFirstNonSpaceRow : OpenClaim := { program := "qxb6001000a", sum := "cef3411c2510ad37a291562ecdd6d72543381a8c9ad8006a3805e91a95cba7a6", func := "example.com/watok/watok/zzlaws_internal_review_b1.FnSkipSpaceStopsAtFirstNonSpace", spec := "fnSkipSpaceStopsAtFirstNonSpace", apart := false }
def FnSkipSpaceStopsAtFirstNonSpaceSaid : Prop := fnSkipSpaceStopsAtFirstNonSpaceRow.holds Try.pinned (OpenSpec.ofChange fnSkipSpaceStopsAtFirstNonSpaceSpec)

/-- ITS FALSE NEIGHBOUR: 'it returns false'. Refute it at one input. -/
def fnSkipSpaceStopsAtFirstNonSpaceWrong : ChangeSpec := { name := "fnSkipSpaceStopsAtFirstNonSpace", fn := fun _ => fun
  | [d1, d2] => { results := [.lit (.bool false)], args := [d1, d2] }
  | _ => none }
def FnSkipSpaceStopsAtFirstNonSpaceWrongFalsely : Prop := fnSkipSpaceStopsAtFirstNonSpaceRow.holds Try.pinned (OpenSpec.ofChange fnSkipSpaceStopsAtFirstNonSpaceWrong)

/-- 'zzlaws_internal_review_b1.FnSkipSpaceIdempotent': WHATEVER THE INPUT: true; the input reads as it did. -/
def fnSkipSpaceIdempotentSpec : ChangeSpec := { name := "fnSkipSpaceIdempotent", fn := fun _ => fun
  | [d1, d2] => { results := [.lit (.bool true)], args := [d1, d2] }
  | _ => none }
def fnSkipSpaceIdempotentRow : OpenClaim := { program := "qxb6001000a", sum := "cef3411c2510ad37a291562ecdd6d72543381a8c9ad8006a3805e91a95cba7a6", func := "example.com/watok/watok/zzlaws_internal_review_b1.FnSkipSpaceIdempotent", spec := "fnSkipSpaceIdempotent", apart := false }
def FnSkipSpaceIdempotentSaid : Prop := fnSkipSpaceIdempotentRow.holds Try.pinned (OpenSpec.ofChange fnSkipSpaceIdempotentSpec)

/-- ITS FALSE NEIGHBOUR: 'it returns false'. Refute it at one input. -/
def fnSkipSpaceIdempotentWrong : ChangeSpec := { name := "fnSkipSpaceIdempotent", fn := fun _ => fun
  | [d1, d2] => { results := [.lit (.bool false)], args := [d1, d2] }
  | _ => none }
def FnSkipSpaceIdempotentWrongFalsely : Prop := fnSkipSpaceIdempotentRow.holds Try.pinned (OpenSpec.ofChange fnSkipSpaceIdempotentWrong)

/-- 'zzlaws_internal_review_b1.FnSkipSpaceMonotone': WHATEVER THE INPUT: true; the input reads as it did. -/
def fnSkipSpaceMonotoneSpec : ChangeSpec := { name := "fnSkipSpaceMonotone", fn := fun _ => fun
  | [d1, d2, d3] => { results := [.lit (.bool true)], args := [d1, d2, d3] }
  | _ => none }
def fnSkipSpaceMonotoneRow : OpenClaim := { program := "qxb6001000a", sum := "cef3411c2510ad37a291562ecdd6d72543381a8c9ad8006a3805e91a95cba7a6", func := "example.com/watok/watok/zzlaws_internal_review_b1.FnSkipSpaceMonotone", spec := "fnSkipSpaceMonotone", apart := false }
def FnSkipSpaceMonotoneSaid : Prop := fnSkipSpaceMonotoneRow.holds Try.pinned (OpenSpec.ofChange fnSkipSpaceMonotoneSpec)

/-- ITS FALSE NEIGHBOUR: 'it returns false'. Refute it at one input. -/
def fnSkipSpaceMonotoneWrong : ChangeSpec := { name := "fnSkipSpaceMonotone", fn := fun _ => fun
  | [d1, d2, d3] => { results := [.lit (.bool false)], args := [d1, d2, d3] }
  | _ => none }
def FnSkipSpaceMonotoneWrongFalsely : Prop := fnSkipSpaceMonotoneRow.holds Try.pinned (OpenSpec.ofChange fnSkipSpaceMonotoneWrong)

/-- 'zzlaws_internal_review_b1.FnSkipStringExact': WHATEVER THE INPUT: true; the input reads as it did. -/
def fnSkipStringExactSpec : ChangeSpec := { name := "fnSkipStringExact", fn := fun _ => fun
  | [d1, d2, d3, d4] => { results := [.lit (.bool true)], args := [d1, d2, d3, d4] }
  | _ => none }
def fnSkipStringExactRow : OpenClaim := { program := "qxb6001000a", sum := "cef3411c2510ad37a291562ecdd6d72543381a8c9ad8006a3805e91a95cba7a6", func := "example.com/watok/watok/zzlaws_internal_review_b1.FnSkipStringExact", spec := "fnSkipStringExact", apart := false }
def FnSkipStringExactSaid : Prop := fnSkipStringExactRow.holds Try.pinned (OpenSpec.ofChange fnSkipStringExactSpec)

/-- ITS FALSE NEIGHBOUR: 'it returns false'. Refute it at one input. -/
def fnSkipStringExactWrong : ChangeSpec := { name := "fnSkipStringExact", fn := fun _ => fun
  | [d1, d2, d3, d4] => { results := [.lit (.bool false)], args := [d1, d2, d3, d4] }
  | _ => none }
def FnSkipStringExactWrongFalsely : Prop := fnSkipStringExactRow.holds Try.pinned (OpenSpec.ofChange fnSkipStringExactWrong)

/-- 'zzlaws_internal_review_b1.FnSkipValueContainerExact': WHATEVER THE INPUT: true; the input reads as it did. -/
def fnSkipValueContainerExactSpec : ChangeSpec := { name := "fnSkipValueContainerExact", fn := fun _ => fun
  | [d1, d2, d3, d4, d5, d6, d7] => { results := [.lit (.bool true)], args := [d1, d2, d3, d4, d5, d6, d7] }
  | _ => none }
def fnSkipValueContainerExactRow : OpenClaim := { program := "qxb6001000a", sum := "cef3411c2510ad37a291562ecdd6d72543381a8c9ad8006a3805e91a95cba7a6", func := "example.com/watok/watok/zzlaws_internal_review_b1.FnSkipValueContainerExact", spec := "fnSkipValueContainerExact", apart := false }
def FnSkipValueContainerExactSaid : Prop := fnSkipValueContainerExactRow.holds Try.pinned (OpenSpec.ofChange fnSkipValueContainerExactSpec)

/-- ITS FALSE NEIGHBOUR: 'it returns false'. Refute it at one input. -/
def fnSkipValueContainerExactWrong : ChangeSpec := { name := "fnSkipValueContainerExact", fn := fun _ => fun
  | [d1, d2, d3, d4, d5, d6, d7] => { results := [.lit (.bool false)], args := [d1, d2, d3, d4, d5, d6, d7] }
  | _ => none }
def FnSkipValueContainerExactWrongFalsely : Prop := fnSkipValueContainerExactRow.holds Try.pinned (OpenSpec.ofChange fnSkipValueContainerExactWrong)

end Rows
end Go.Proofs.Qxb6001000a
