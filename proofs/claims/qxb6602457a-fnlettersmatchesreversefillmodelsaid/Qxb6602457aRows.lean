/-
  No cell of these rows narrows 'for every input' (looked for: loops, veiled, ifaces, maps, wideKeys, modest, calm, conditions, laid).
  DERIVED. THE GIVEN ROWS OF THIS SEAT. 5 by the template 'for every input the law returns true; each argument reads behind the call as it read before'; 0 by the template 'total and deterministic' (their statements: Qxb6602457aTotals.lean).
  GIVEN WITH THE SEED: the statements are not yours to turn. If you find one false, say at which input.
  Laid BY PROGRAM, IN A SANDBOX (cutbox-rows.mjs): the forced cells as the released guide's own fill.sh prints them over the translation f7d15b70cb1742dc… (all of the seat's roots in one cut). By AI agents, Wed Nov 11 2026. No macro, syntax, notation, axiom, sorry.
-/
import Derived.Test.Qxb6602457aChecked
import GoSem.Claim
import GoSem.ClaimJoined
import GoSem.ClaimMapViews
import Derived.JoinedTies
import Derived.KernelRfl
namespace Go.Proofs.Qxb6602457a
/- THE CELL 'sum', in the pinned program and in every row, IS THE sha256 OF THE DUMP (.gsa) THAT Qxb6602457aProg.lean LOADS. Nothing in Lean hashes anything: it is a label: what it is worth is what the hold of that sum in a sandbox is worth. -/
noncomputable def Try.pinned : Pinned := { name := "qxb6602457a", sum := "f7d15b70cb1742dc32420235df91efcc610b57470ff3bfd1c5c8279e6d856a8d", checked := Try.checked }
namespace Rows
def none {H : Type} : Left H := { results := [], args := [] }

/-- 'zzlaws_root_b1.FnAppendLowerASCIISplitsOverConcatenation': WHATEVER THE INPUT: true; the input reads as it did. -/
def fnAppendLowerASCIISplitsOverConcatenationSpec : ChangeSpec := { name := "fnAppendLowerASCIISplitsOverConcatenation", fn := fun _ => fun
  | [d1, d2, d3] => { results := [.lit (.bool true)], args := [d1, d2, d3] }
  | _ => none }
def fnAppendLowerASCIISplitsOverConcatenationRow : OpenClaim := { program := "qxb6602457a", sum := "f7d15b70cb1742dc32420235df91efcc610b57470ff3bfd1c5c8279e6d856a8d", func := "example.com/hayloft/hayloft/zzlaws_root_b1.FnAppendLowerASCIISplitsOverConcatenation", spec := "fnAppendLowerASCIISplitsOverConcatenation", apart := false }
def FnAppendLowerASCIISplitsOverConcatenationSaid : Prop := fnAppendLowerASCIISplitsOverConcatenationRow.holds Try.pinned (OpenSpec.ofChange fnAppendLowerASCIISplitsOverConcatenationSpec)

/-- ITS FALSE NEIGHBOUR: 'it returns false'. Refute it at one input. -/
def fnAppendLowerASCIISplitsOverConcatenationWrong : ChangeSpec := { name := "fnAppendLowerASCIISplitsOverConcatenation", fn := fun _ => fun
  | [d1, d2, d3] => { results := [.lit (.bool false)], args := [d1, d2, d3] }
  | _ => none }
def FnAppendLowerASCIISplitsOverConcatenationWrongFalsely : Prop := fnAppendLowerASCIISplitsOverConcatenationRow.holds Try.pinned (OpenSpec.ofChange fnAppendLowerASCIISplitsOverConcatenationWrong)

/-- 'zzlaws_root_b1.FnAppendLowerASCIIIsIdempotent': WHATEVER THE INPUT: true; the input reads as it did. -/
def fnAppendLowerASCIIIsIdempotentSpec : ChangeSpec := { name := "fnAppendLowerASCIIIsIdempotent", fn := fun _ => fun
  | [d] => { results := [.lit (.bool true)], args := [d] }
  | _ => none }
def fnAppendLowerASCIIIsIdempotentRow : OpenClaim := { program := "qxb6602457a", sum := "f7d15b70cb1742dc32420235df91efcc610b57470ff3bfd1c5c8279e6d856a8d", func := "example.com/hayloft/hayloft/zzlaws_root_b1.FnAppendLowerASCIIIsIdempotent", spec := "fnAppendLowerASCIIIsIdempotent", apart := false }
def FnAppendLowerASCIIIsIdempotentSaid : Prop := fnAppendLowerASCIIIsIdempotentRow.holds Try.pinned (OpenSpec.ofChange fnAppendLowerASCIIIsIdempotentSpec)

/-- ITS FALSE NEIGHBOUR: 'it returns false'. Refute it at one input. -/
def fnAppendLowerASCIIIsIdempotentWrong : ChangeSpec := { name := "fnAppendLowerASCIIIsIdempotent", fn := fun _ => fun
  | [d] => { results := [.lit (.bool false)], args := [d] }
  | _ => none }
def FnAppendLowerASCIIIsIdempotentWrongFalsely : Prop := fnAppendLowerASCIIIsIdempotentRow.holds Try.pinned (OpenSpec.ofChange fnAppendLowerASCIIIsIdempotentWrong)

/-- 'zzlaws_root_b1.FnLettersMatchesReverseFillModel': WHATEVER THE INPUT: true; the input reads as it did. -/
def fnLettersMatchesReverseFillModelSpec : ChangeSpec := { name := "fnLettersMatchesReverseFillModel", fn := fun _ => fun
  | [d1, d2, d3] => { results := [.lit (.bool true)], args := [d1, d2, d3] }
  | _ => none }
def fnLettersMatchesReverseFillModelRow : OpenClaim := { program := "qxb6602457a", sum := "f7d15b70cb1742dc32420235df91efcc610b57470ff3bfd1c5c8279e6d856a8d", func := "example.com/hayloft/hayloft/zzlaws_root_b1.FnLettersMatchesReverseFillModel", spec := "fnLettersMatchesReverseFillModel", inPlace := ["internal/abi.NoEscape"], apart := false }
def FnLettersMatchesReverseFillModelSaid : Prop := fnLettersMatchesReverseFillModelRow.holds Try.pinned (OpenSpec.ofChange fnLettersMatchesReverseFillModelSpec)

/-- ITS FALSE NEIGHBOUR: 'it returns false'. Refute it at one input. -/
def fnLettersMatchesReverseFillModelWrong : ChangeSpec := { name := "fnLettersMatchesReverseFillModel", fn := fun _ => fun
  | [d1, d2, d3] => { results := [.lit (.bool false)], args := [d1, d2, d3] }
  | _ => none }
def FnLettersMatchesReverseFillModelWrongFalsely : Prop := fnLettersMatchesReverseFillModelRow.holds Try.pinned (OpenSpec.ofChange fnLettersMatchesReverseFillModelWrong)

/-- 'zzlaws_root_b1.FnLettersSplitsOverConcatenatedTables': WHATEVER THE INPUT: true; the input reads as it did. -/
def fnLettersSplitsOverConcatenatedTablesSpec : ChangeSpec := { name := "fnLettersSplitsOverConcatenatedTables", fn := fun _ => fun
  | [d1, d2, d3, d4, d5] => { results := [.lit (.bool true)], args := [d1, d2, d3, d4, d5] }
  | _ => none }
def fnLettersSplitsOverConcatenatedTablesRow : OpenClaim := { program := "qxb6602457a", sum := "f7d15b70cb1742dc32420235df91efcc610b57470ff3bfd1c5c8279e6d856a8d", func := "example.com/hayloft/hayloft/zzlaws_root_b1.FnLettersSplitsOverConcatenatedTables", spec := "fnLettersSplitsOverConcatenatedTables", inPlace := ["internal/abi.NoEscape"], apart := false }
def FnLettersSplitsOverConcatenatedTablesSaid : Prop := fnLettersSplitsOverConcatenatedTablesRow.holds Try.pinned (OpenSpec.ofChange fnLettersSplitsOverConcatenatedTablesSpec)

/-- ITS FALSE NEIGHBOUR: 'it returns false'. Refute it at one input. -/
def fnLettersSplitsOverConcatenatedTablesWrong : ChangeSpec := { name := "fnLettersSplitsOverConcatenatedTables", fn := fun _ => fun
  | [d1, d2, d3, d4, d5] => { results := [.lit (.bool false)], args := [d1, d2, d3, d4, d5] }
  | _ => none }
def FnLettersSplitsOverConcatenatedTablesWrongFalsely : Prop := fnLettersSplitsOverConcatenatedTablesRow.holds Try.pinned (OpenSpec.ofChange fnLettersSplitsOverConcatenatedTablesWrong)

/-- 'zzlaws_root_b1.FnLettersIgnoresBitsNoEntryNames': WHATEVER THE INPUT: true; the input reads as it did. -/
def fnLettersIgnoresBitsNoEntryNamesSpec : ChangeSpec := { name := "fnLettersIgnoresBitsNoEntryNames", fn := fun _ => fun
  | [d1, d2, d3] => { results := [.lit (.bool true)], args := [d1, d2, d3] }
  | _ => none }
def fnLettersIgnoresBitsNoEntryNamesRow : OpenClaim := { program := "qxb6602457a", sum := "f7d15b70cb1742dc32420235df91efcc610b57470ff3bfd1c5c8279e6d856a8d", func := "example.com/hayloft/hayloft/zzlaws_root_b1.FnLettersIgnoresBitsNoEntryNames", spec := "fnLettersIgnoresBitsNoEntryNames", inPlace := ["internal/abi.NoEscape"], apart := false }
def FnLettersIgnoresBitsNoEntryNamesSaid : Prop := fnLettersIgnoresBitsNoEntryNamesRow.holds Try.pinned (OpenSpec.ofChange fnLettersIgnoresBitsNoEntryNamesSpec)

/-- ITS FALSE NEIGHBOUR: 'it returns false'. Refute it at one input. -/
def fnLettersIgnoresBitsNoEntryNamesWrong : ChangeSpec := { name := "fnLettersIgnoresBitsNoEntryNames", fn := fun _ => fun
  | [d1, d2, d3] => { results := [.lit (.bool false)], args := [d1, d2, d3] }
  | _ => none }
def FnLettersIgnoresBitsNoEntryNamesWrongFalsely : Prop := fnLettersIgnoresBitsNoEntryNamesRow.holds Try.pinned (OpenSpec.ofChange fnLettersIgnoresBitsNoEntryNamesWrong)

end Rows
end Go.Proofs.Qxb6602457a
