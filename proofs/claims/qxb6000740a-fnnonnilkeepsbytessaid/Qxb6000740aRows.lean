/-
  No cell of these rows narrows 'for every input' (looked for: loops, veiled, ifaces, maps, wideKeys, modest, calm, conditions, laid).
  DERIVED. THE GIVEN ROWS OF THIS SEAT. 4 by the template 'for every input the law returns true; each argument reads behind the call as it read before'; 0 by the template 'total and deterministic' (their statements: Qxb6000740aTotals.lean).
  GIVEN WITH THE SEED: the statements are not yours to turn. If you find one false, say at which input.
  Laid BY PROGRAM, IN A SANDBOX (cutbox-rows.mjs): the forced cells as the released guide's own fill.sh prints them over the translation 7d3b07da6bb1cdf6… (all of the seat's roots in one cut). By AI agents, Wed Nov 11 2026. No macro, syntax, notation, axiom, sorry.
-/
import Derived.Test.Qxb6000740aChecked
import GoSem.Claim
import GoSem.ClaimJoined
import GoSem.ClaimMapViews
import Derived.JoinedTies
import Derived.KernelRfl
namespace Go.Proofs.Qxb6000740a
/- THE CELL 'sum', in the pinned program and in every row, IS THE sha256 OF THE DUMP (.gsa) THAT Qxb6000740aProg.lean LOADS. Nothing in Lean hashes anything: it is a label: what it is worth is what the hold of that sum in a sandbox is worth. -/
noncomputable def Try.pinned : Pinned := { name := "qxb6000740a", sum := "7d3b07da6bb1cdf6509058c223cebe4299baede04476c1caf64305c221ae0b90", checked := Try.checked }
namespace Rows
def none {H : Type} : Left H := { results := [], args := [] }

/-- 'zzlaws_internal_protocol_b1.FnNonNilKeepsBytes': WHATEVER THE INPUT: true; the input reads as it did. -/
def fnNonNilKeepsBytesSpec : ChangeSpec := { name := "fnNonNilKeepsBytes", fn := fun _ => fun
  | [d] => { results := [.lit (.bool true)], args := [d] }
  | _ => none }
def fnNonNilKeepsBytesRow : OpenClaim := { program := "qxb6000740a", sum := "7d3b07da6bb1cdf6509058c223cebe4299baede04476c1caf64305c221ae0b90", func := "example.com/consonance/consonance/zzlaws_internal_protocol_b1.FnNonNilKeepsBytes", spec := "fnNonNilKeepsBytes", apart := false }
def FnNonNilKeepsBytesSaid : Prop := fnNonNilKeepsBytesRow.holds Try.pinned (OpenSpec.ofChange fnNonNilKeepsBytesSpec)

/-- ITS FALSE NEIGHBOUR: 'it returns false'. Refute it at one input. -/
def fnNonNilKeepsBytesWrong : ChangeSpec := { name := "fnNonNilKeepsBytes", fn := fun _ => fun
  | [d] => { results := [.lit (.bool false)], args := [d] }
  | _ => none }
def FnNonNilKeepsBytesWrongFalsely : Prop := fnNonNilKeepsBytesRow.holds Try.pinned (OpenSpec.ofChange fnNonNilKeepsBytesWrong)

/-- 'zzlaws_internal_protocol_b1.FnToldTrueCountIsMinority': WHATEVER THE INPUT: true; the input reads as it did. -/
def fnToldTrueCountIsMinoritySpec : ChangeSpec := { name := "fnToldTrueCountIsMinority", fn := fun _ => fun
  | [d1, d2] => { results := [.lit (.bool true)], args := [d1, d2] }
  | _ => none }
def fnToldTrueCountIsMinorityRow : OpenClaim := { program := "qxb6000740a", sum := "7d3b07da6bb1cdf6509058c223cebe4299baede04476c1caf64305c221ae0b90", func := "example.com/consonance/consonance/zzlaws_internal_protocol_b1.FnToldTrueCountIsMinority", spec := "fnToldTrueCountIsMinority", apart := false }
def FnToldTrueCountIsMinoritySaid : Prop := fnToldTrueCountIsMinorityRow.holds Try.pinned (OpenSpec.ofChange fnToldTrueCountIsMinoritySpec)

/-- ITS FALSE NEIGHBOUR: 'it returns false'. Refute it at one input. -/
def fnToldTrueCountIsMinorityWrong : ChangeSpec := { name := "fnToldTrueCountIsMinority", fn := fun _ => fun
  | [d1, d2] => { results := [.lit (.bool false)], args := [d1, d2] }
  | _ => none }
def FnToldTrueCountIsMinorityWrongFalsely : Prop := fnToldTrueCountIsMinorityRow.holds Try.pinned (OpenSpec.ofChange fnToldTrueCountIsMinorityWrong)

/-- 'zzlaws_internal_protocol_b1.FnRelayEntriesRecurrence': WHATEVER THE INPUT: true; the input reads as it did. -/
def fnRelayEntriesRecurrenceSpec : ChangeSpec := { name := "fnRelayEntriesRecurrence", fn := fun _ => fun
  | [d1, d2] => { results := [.lit (.bool true)], args := [d1, d2] }
  | _ => none }
def fnRelayEntriesRecurrenceRow : OpenClaim := { program := "qxb6000740a", sum := "7d3b07da6bb1cdf6509058c223cebe4299baede04476c1caf64305c221ae0b90", func := "example.com/consonance/consonance/zzlaws_internal_protocol_b1.FnRelayEntriesRecurrence", spec := "fnRelayEntriesRecurrence", apart := false }
def FnRelayEntriesRecurrenceSaid : Prop := fnRelayEntriesRecurrenceRow.holds Try.pinned (OpenSpec.ofChange fnRelayEntriesRecurrenceSpec)

/-- ITS FALSE NEIGHBOUR: 'it returns false'. Refute it at one input. -/
def fnRelayEntriesRecurrenceWrong : ChangeSpec := { name := "fnRelayEntriesRecurrence", fn := fun _ => fun
  | [d1, d2] => { results := [.lit (.bool false)], args := [d1, d2] }
  | _ => none }
def FnRelayEntriesRecurrenceWrongFalsely : Prop := fnRelayEntriesRecurrenceRow.holds Try.pinned (OpenSpec.ofChange fnRelayEntriesRecurrenceWrong)

/-- 'zzlaws_internal_protocol_b1.FnRelayEntriesMonotone': WHATEVER THE INPUT: true; the input reads as it did. -/
def fnRelayEntriesMonotoneSpec : ChangeSpec := { name := "fnRelayEntriesMonotone", fn := fun _ => fun
  | [d1, d2] => { results := [.lit (.bool true)], args := [d1, d2] }
  | _ => none }
def fnRelayEntriesMonotoneRow : OpenClaim := { program := "qxb6000740a", sum := "7d3b07da6bb1cdf6509058c223cebe4299baede04476c1caf64305c221ae0b90", func := "example.com/consonance/consonance/zzlaws_internal_protocol_b1.FnRelayEntriesMonotone", spec := "fnRelayEntriesMonotone", apart := false }
def FnRelayEntriesMonotoneSaid : Prop := fnRelayEntriesMonotoneRow.holds Try.pinned (OpenSpec.ofChange fnRelayEntriesMonotoneSpec)

/-- ITS FALSE NEIGHBOUR: 'it returns false'. Refute it at one input. -/
def fnRelayEntriesMonotoneWrong : ChangeSpec := { name := "fnRelayEntriesMonotone", fn := fun _ => fun
  | [d1, d2] => { results := [.lit (.bool false)], args := [d1, d2] }
  | _ => none }
def FnRelayEntriesMonotoneWrongFalsely : Prop := fnRelayEntriesMonotoneRow.holds Try.pinned (OpenSpec.ofChange fnRelayEntriesMonotoneWrong)

end Rows
end Go.Proofs.Qxb6000740a
