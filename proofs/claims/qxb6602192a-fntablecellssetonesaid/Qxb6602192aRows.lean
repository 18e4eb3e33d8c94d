/-
  No cell of these rows narrows 'for every input' (looked for: loops, veiled, ifaces, maps, wideKeys, modest, calm, conditions, laid).
  DERIVED. THE GIVEN ROWS OF THIS SEAT. 7 by the template 'for every input the law returns true; each argument reads behind the call as it read before'; 0 by the template 'total and deterministic' (their statements: Qxb6602192aTotals.lean).
  GIVEN WITH THE SEED: the statements are not yours to turn. If you find one false, say at which input.
  Laid BY PROGRAM, IN A SANDBOX (cutbox-rows.mjs): the forced cells as the released guide's own fill.sh prints them over the translation 1e1419dacc60b5ff… (all of the seat's roots in one cut). By AI agents, Wed Nov 11 2026. No macro, syntax, notation, axiom, sorry.
-/
import Derived.Test.Qxb6602192aChecked
import GoSem.Claim
import GoSem.ClaimJoined
import GoSem.ClaimMapViews
import Derived.JoinedTies
import Derived.KernelRfl
namespace Go.Proofs.Qxb6602192a
/- THE CELL 'sum', in the pinned program and in every row, IS THE sha256 OF THE DUMP (.gsa) THAT Qxb6602192aProg.lean LOADS. Nothing in Lean hashes anything: it is a label: what it is worth is what the hold of that sum in a sandbox is worth. -/
noncomputable def Try.pinned : Pinned := { name := "qxb6602192a", sum := "1e1419dacc60b5ff76b0135041d8e3393684e123cc862fe1a9da177d49068be5", checked := Try.checked }
namespace Rows
def none {H : Type} : Left H := { results := [], args := [] }

/-- 'zzlaws_root_b1.FnRankInverse': WHATEVER THE INPUT: true; the input reads as it did. -/
def fnRankInverseSpec : ChangeSpec := { name := "fnRankInverse", fn := fun _ => fun
  | [d1, d2] => { results := [.lit (.bool true)], args := [d1, d2] }
  | _ => none }
def fnRankInverseRow : OpenClaim := { program := "qxb6602192a", sum := "1e1419dacc60b5ff76b0135041d8e3393684e123cc862fe1a9da177d49068be5", func := "example.com/ringroute/ringroute/zzlaws_root_b1.FnRankInverse", spec := "fnRankInverse", plainKeys := false, apart := false }
def FnRankInverseSaid : Prop := fnRankInverseRow.holds Try.pinned (OpenSpec.ofChange fnRankInverseSpec)

/-- ITS FALSE NEIGHBOUR: 'it returns false'. Refute it at one input. -/
def fnRankInverseWrong : ChangeSpec := { name := "fnRankInverse", fn := fun _ => fun
  | [d1, d2] => { results := [.lit (.bool false)], args := [d1, d2] }
  | _ => none }
def FnRankInverseWrongFalsely : Prop := fnRankInverseRow.holds Try.pinned (OpenSpec.ofChange fnRankInverseWrong)

/-- 'zzlaws_root_b1.FnRankInjective': WHATEVER THE INPUT: true; the input reads as it did. -/
def fnRankInjectiveSpec : ChangeSpec := { name := "fnRankInjective", fn := fun _ => fun
  | [d1, d2, d3] => { results := [.lit (.bool true)], args := [d1, d2, d3] }
  | _ => none }
def fnRankInjectiveRow : OpenClaim := { program := "qxb6602192a", sum := "1e1419dacc60b5ff76b0135041d8e3393684e123cc862fe1a9da177d49068be5", func := "example.com/ringroute/ringroute/zzlaws_root_b1.FnRankInjective", spec := "fnRankInjective", plainKeys := false, apart := false }
def FnRankInjectiveSaid : Prop := fnRankInjectiveRow.holds Try.pinned (OpenSpec.ofChange fnRankInjectiveSpec)

/-- ITS FALSE NEIGHBOUR: 'it returns false'. Refute it at one input. -/
def fnRankInjectiveWrong : ChangeSpec := { name := "fnRankInjective", fn := fun _ => fun
  | [d1, d2, d3] => { results := [.lit (.bool false)], args := [d1, d2, d3] }
  | _ => none }
def FnRankInjectiveWrongFalsely : Prop := fnRankInjectiveRow.holds Try.pinned (OpenSpec.ofChange fnRankInjectiveWrong)

/-- 'zzlaws_root_b1.FnDistinctFirstOccurrences': WHATEVER THE INPUT: true; the input reads as it did. -/
def fnDistinctFirstOccurrencesSpec : ChangeSpec := { name := "fnDistinctFirstOccurrences", fn := fun _ => fun
  | [d1, d2, d3] => { results := [.lit (.bool true)], args := [d1, d2, d3] }
  | _ => none }
def fnDistinctFirstOccurrencesRow : OpenClaim := { program := "qxb6602192a", sum := "1e1419dacc60b5ff76b0135041d8e3393684e123cc862fe1a9da177d49068be5", func := "example.com/ringroute/ringroute/zzlaws_root_b1.FnDistinctFirstOccurrences", spec := "fnDistinctFirstOccurrences", plainKeys := false, apart := false }
def FnDistinctFirstOccurrencesSaid : Prop := fnDistinctFirstOccurrencesRow.holds Try.pinned (OpenSpec.ofChange fnDistinctFirstOccurrencesSpec)

/-- ITS FALSE NEIGHBOUR: 'it returns false'. Refute it at one input. -/
def fnDistinctFirstOccurrencesWrong : ChangeSpec := { name := "fnDistinctFirstOccurrences", fn := fun _ => fun
  | [d1, d2, d3] => { results := [.lit (.bool false)], args := [d1, d2, d3] }
  | _ => none }
def FnDistinctFirstOccurrencesWrongFalsely : Prop := fnDistinctFirstOccurrencesRow.holds Try.pinned (OpenSpec.ofChange fnDistinctFirstOccurrencesWrong)

/-- 'zzlaws_root_b1.FnDistinctIdempotent': WHATEVER THE INPUT: true; the input reads as it did. -/
def fnDistinctIdempotentSpec : ChangeSpec := { name := "fnDistinctIdempotent", fn := fun _ => fun
  | [d1, d2, d3] => { results := [.lit (.bool true)], args := [d1, d2, d3] }
  | _ => none }
def fnDistinctIdempotentRow : OpenClaim := { program := "qxb6602192a", sum := "1e1419dacc60b5ff76b0135041d8e3393684e123cc862fe1a9da177d49068be5", func := "example.com/ringroute/ringroute/zzlaws_root_b1.FnDistinctIdempotent", spec := "fnDistinctIdempotent", plainKeys := false, apart := false }
def FnDistinctIdempotentSaid : Prop := fnDistinctIdempotentRow.holds Try.pinned (OpenSpec.ofChange fnDistinctIdempotentSpec)

/-- ITS FALSE NEIGHBOUR: 'it returns false'. Refute it at one input. -/
def fnDistinctIdempotentWrong : ChangeSpec := { name := "fnDistinctIdempotent", fn := fun _ => fun
  | [d1, d2, d3] => { results := [.lit (.bool false)], args := [d1, d2, d3] }
  | _ => none }
def FnDistinctIdempotentWrongFalsely : Prop := fnDistinctIdempotentRow.holds Try.pinned (OpenSpec.ofChange fnDistinctIdempotentWrong)

/-- 'zzlaws_root_b1.FnDistinctDoubled': WHATEVER THE INPUT: true; the input reads as it did. -/
def fnDistinctDoubledSpec : ChangeSpec := { name := "fnDistinctDoubled", fn := fun _ => fun
  | [d1, d2, d3] => { results := [.lit (.bool true)], args := [d1, d2, d3] }
  | _ => none }
def fnDistinctDoubledRow : OpenClaim := { program := "qxb6602192a", sum := "1e1419dacc60b5ff76b0135041d8e3393684e123cc862fe1a9da177d49068be5", func := "example.com/ringroute/ringroute/zzlaws_root_b1.FnDistinctDoubled", spec := "fnDistinctDoubled", plainKeys := false, apart := false }
def FnDistinctDoubledSaid : Prop := fnDistinctDoubledRow.holds Try.pinned (OpenSpec.ofChange fnDistinctDoubledSpec)

/-- ITS FALSE NEIGHBOUR: 'it returns false'. Refute it at one input. -/
def fnDistinctDoubledWrong : ChangeSpec := { name := "fnDistinctDoubled", fn := fun _ => fun
  | [d1, d2, d3] => { results := [.lit (.bool false)], args := [d1, d2, d3] }
  | _ => none }
def FnDistinctDoubledWrongFalsely : Prop := fnDistinctDoubledRow.holds Try.pinned (OpenSpec.ofChange fnDistinctDoubledWrong)

/-- 'zzlaws_root_b1.FnTableCellsExactlyOccupied': WHATEVER THE INPUT: true; the input reads as it did. -/
def fnTableCellsExactlyOccupiedSpec : ChangeSpec := { name := "fnTableCellsExactlyOccupied", fn := fun _ => fun
  | [d1, d2, d3] => { results := [.lit (.bool true)], args := [d1, d2, d3] }
  | _ => none }
def fnTableCellsExactlyOccupiedRow : OpenClaim := { program := "qxb6602192a", sum := "1e1419dacc60b5ff76b0135041d8e3393684e123cc862fe1a9da177d49068be5", func := "example.com/ringroute/ringroute/zzlaws_root_b1.FnTableCellsExactlyOccupied", spec := "fnTableCellsExactlyOccupied", plainKeys := false, apart := false }
def FnTableCellsExactlyOccupiedSaid : Prop := fnTableCellsExactlyOccupiedRow.holds Try.pinned (OpenSpec.ofChange fnTableCellsExactlyOccupiedSpec)

/-- ITS FALSE NEIGHBOUR: 'it returns false'. Refute it at one input. -/
def fnTableCellsExactlyOccupiedWrong : ChangeSpec := { name := "fnTableCellsExactlyOccupied", fn := fun _ => fun
  | [d1, d2, d3] => { results := [.lit (.bool false)], args := [d1, d2, d3] }
  | _ => none }
def FnTableCellsExactlyOccupiedWrongFalsely : Prop := fnTableCellsExactlyOccupiedRow.holds Try.pinned (OpenSpec.ofChange fnTableCellsExactlyOccupiedWrong)

/-- 'zzlaws_root_b1.FnTableCellsSetOne': WHATEVER THE INPUT: true; the input reads as it did. -/
def fnTableCellsSetOneSpec : ChangeSpec := { name := "fnTableCellsSetOne", fn := fun _ => fun
  | [d1, d2, d3, d4, d5, d6, d7] => { results := [.lit (.bool true)], args := [d1, d2, d3, d4, d5, d6, d7] }
  | _ => none }
def fnTableCellsSetOneRow : OpenClaim := { program := "qxb6602192a", sum := "1e1419dacc60b5ff76b0135041d8e3393684e123cc862fe1a9da177d49068be5", func := "example.com/ringroute/ringroute/zzlaws_root_b1.FnTableCellsSetOne", spec := "fnTableCellsSetOne", plainKeys := false, apart := false }
def FnTableCellsSetOneSaid : Prop := fnTableCellsSetOneRow.holds Try.pinned (OpenSpec.ofChange fnTableCellsSetOneSpec)

/-- ITS FALSE NEIGHBOUR: 'it returns false'. Refute it at one input. -/
def fnTableCellsSetOneWrong : ChangeSpec := { name := "fnTableCellsSetOne", fn := fun _ => fun
  | [d1, d2, d3, d4, d5, d6, d7] => { results := [.lit (.bool false)], args := [d1, d2, d3, d4, d5, d6, d7] }
  | _ => none }
def FnTableCellsSetOneWrongFalsely : Prop := fnTableCellsSetOneRow.holds Try.pinned (OpenSpec.ofChange fnTableCellsSetOneWrong)

end Rows
end Go.Proofs.Qxb6602192a
