/-
  No cell of these rows narrows 'for every input' (looked for: loops, veiled, ifaces, maps, wideKeys, modest, calm, conditions, laid).
  DERIVED. THE GIVEN ROWS OF THIS SEAT. 3 by the template 'for every input the law returns true; each argument reads behind the call as it read before'; 0 by the template 'total and deterministic' (their statements: Qxb6602274aTotals.lean).
  GIVEN WITH THE SEED: the statements are not yours to turn. If you find one false, say at which input.
  Laid BY PROGRAM, IN A SANDBOX (cutbox-rows.mjs): the forced cells as the released guide's own fill.sh prints them over the translation 3611c4c5a55941cd… (all of the seat's roots in one cut). By AI agents, Wed Nov 11 2026. No macro, syntax, notation, axiom, sorry.
-/
import Derived.Test.Qxb6602274aChecked
import GoSem.Claim
import GoSem.ClaimJoined
import GoSem.ClaimMapViews
import Derived.JoinedTies
import Derived.KernelRfl
namespace Go.Proofs.Qxb6602274a
/- THE CELL 'sum', in the pinned program and in every row, IS THE sha256 OF THE DUMP (.gsa) THAT Qxb6602274aProg.lean LOADS. Nothing in Lean hashes anything: it is a label: what it is worth is what the hold of that sum in a sandbox is worth. -/
noncomputable def Try.pinned : Pinned := { name := "qxb6602274a", sum := "3611c4c5a55941cd1a6e41dff67db02d49f835bff6266c833044c334201ce8a6", checked := Try.checked }
namespace Rows
def none {H : Type} : Left H := { results := [], args := [] }

/-- 'zzlaws_internal_jsonschema_b1.FnValueLenMeasuresTheLeadingValue': WHATEVER THE INPUT: true; the input reads as it did. -/
def fnValueLenMeasuresTheLeadingValueSpec : ChangeSpec := { name := "fnValueLenMeasuresTheLeadingValue", fn := fun _ => fun
  | [d] => { results := [.lit (.bool true)], args := [d] }
  | _ => none }
def fnValueLenMeasuresTheLeadingValueRow : OpenClaim := { program := "qxb6602274a", sum := "3611c4c5a55941cd1a6e41dff67db02d49f835bff6266c833044c334201ce8a6", func := "example.com/bounded-loop/bounded-loop/zzlaws_internal_jsonschema_b1.FnValueLenMeasuresTheLeadingValue", spec := "fnValueLenMeasuresTheLeadingValue", recurses := true, apart := false }
def FnValueLenMeasuresTheLeadingValueSaid : Prop := fnValueLenMeasuresTheLeadingValueRow.holds Try.pinned (OpenSpec.ofChange fnValueLenMeasuresTheLeadingValueSpec)

/-- ITS FALSE NEIGHBOUR: 'it returns false'. Refute it at one input. -/
def fnValueLenMeasuresTheLeadingValueWrong : ChangeSpec := { name := "fnValueLenMeasuresTheLeadingValue", fn := fun _ => fun
  | [d] => { results := [.lit (.bool false)], args := [d] }
  | _ => none }
def FnValueLenMeasuresTheLeadingValueWrongFalsely : Prop := fnValueLenMeasuresTheLeadingValueRow.holds Try.pinned (OpenSpec.ofChange fnValueLenMeasuresTheLeadingValueWrong)

/-- 'zzlaws_internal_jsonschema_b1.FnElementsNextReadsOneMember': WHATEVER THE INPUT: true; the input reads as it did. -/
def fnElementsNextReadsOneMemberSpec : ChangeSpec := { name := "fnElementsNextReadsOneMember", fn := fun _ => fun
  | [d1, d2, d3, d4] => { results := [.lit (.bool true)], args := [d1, d2, d3, d4] }
  | _ => none }
def fnElementsNextReadsOneMemberRow : OpenClaim := { program := "qxb6602274a", sum := "3611c4c5a55941cd1a6e41dff67db02d49f835bff6266c833044c334201ce8a6", func := "example.com/bounded-loop/bounded-loop/zzlaws_internal_jsonschema_b1.FnElementsNextReadsOneMember", spec := "fnElementsNextReadsOneMember", recurses := true, apart := false }
def FnElementsNextReadsOneMemberSaid : Prop := fnElementsNextReadsOneMemberRow.holds Try.pinned (OpenSpec.ofChange fnElementsNextReadsOneMemberSpec)

/-- ITS FALSE NEIGHBOUR: 'it returns false'. Refute it at one input. -/
def fnElementsNextReadsOneMemberWrong : ChangeSpec := { name := "fnElementsNextReadsOneMember", fn := fun _ => fun
  | [d1, d2, d3, d4] => { results := [.lit (.bool false)], args := [d1, d2, d3, d4] }
  | _ => none }
def FnElementsNextReadsOneMemberWrongFalsely : Prop := fnElementsNextReadsOneMemberRow.holds Try.pinned (OpenSpec.ofChange fnElementsNextReadsOneMemberWrong)

/-- 'zzlaws_internal_jsonschema_b1.FnElementsReadAWholeContainer': WHATEVER THE INPUT: true; the input reads as it did. -/
def fnElementsReadAWholeContainerSpec : ChangeSpec := { name := "fnElementsReadAWholeContainer", fn := fun _ => fun
  | [d] => { results := [.lit (.bool true)], args := [d] }
  | _ => none }
def fnElementsReadAWholeContainerRow : OpenClaim := { program := "qxb6602274a", sum := "3611c4c5a55941cd1a6e41dff67db02d49f835bff6266c833044c334201ce8a6", func := "example.com/bounded-loop/bounded-loop/zzlaws_internal_jsonschema_b1.FnElementsReadAWholeContainer", spec := "fnElementsReadAWholeContainer", recurses := true, apart := false }
def FnElementsReadAWholeContainerSaid : Prop := fnElementsReadAWholeContainerRow.holds Try.pinned (OpenSpec.ofChange fnElementsReadAWholeContainerSpec)

/-- ITS FALSE NEIGHBOUR: 'it returns false'. Refute it at one input. -/
def fnElementsReadAWholeContainerWrong : ChangeSpec := { name := "fnElementsReadAWholeContainer", fn := fun _ => fun
  | [d] => { results := [.lit (.bool false)], args := [d] }
  | _ => none }
def FnElementsReadAWholeContainerWrongFalsely : Prop := fnElementsReadAWholeContainerRow.holds Try.pinned (OpenSpec.ofChange fnElementsReadAWholeContainerWrong)

end Rows
end Go.Proofs.Qxb6602274a
