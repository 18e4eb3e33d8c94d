/-
  No cell of these rows narrows 'for every input' (looked for: loops, veiled, ifaces, maps, wideKeys, modest, calm, conditions, laid).
  DERIVED. THE GIVEN ROWS OF THIS SEAT. 3 by the template 'for every input the law returns true; each argument reads behind the call as it read before'; 0 by the template 'total and deterministic' (their statements: Qxb6602166aTotals.lean).
  GIVEN WITH THE SEED: the statements are not yours to turn. If you find one false, say at which input.
  Laid BY PROGRAM, IN A SANDBOX (cutbox-rows.mjs): the forced cells as the released guide's own fill.sh prints them over the translation 7526ef168273dcb8… (all of the seat's roots in one cut). By AI agents, Wed Nov 11 2026. No macro, syntax, notation, axiom, sorry.
-/
import Derived.Test.Qxb6602166aChecked
import GoSem.Claim
import GoSem.ClaimJoined
import GoSem.ClaimMapViews
import Derived.JoinedTies
import Derived.KernelRfl
namespace Go.Proofs.Qxb6602166a
/- THE CELL 'sum', in the pinned program and in every row, IS THE sha256 OF THE DUMP (.gsa) THAT Qxb6602166aProg.lean LOADS. Nothing in Lean hashes anything: it is a label: what it is worth is what the hold of that sum in a sandbox is worth. -/
noncomputable def Try.pinned : Pinned := { name := "qxb6602166a", sum := "7526ef168273dcb85cda86fa089798753a00dae094573148375476bb6eca7243", checked := Try.checked }
namespace Rows
def none {H : Type} : Left H := { results := [], args := [] }

/-- 'zzlaws_internal_input_b1.FnSkipStringMatchesParityModel': WHATEVER THE INPUT: true; the input reads as it did. -/
def fnSkipStringMatchesParityModelSpec : ChangeSpec := { name := "fnSkipStringMatchesParityModel", fn := fun _ => fun
  | [d1, d2] => { results := [.lit (.bool true)], args := [d1, d2] }
  | _ => none }
def fnSkipStringMatchesParityModelRow : OpenClaim := { program := "qxb6602166a", sum := "7526ef168273dcb85cda86fa089798753a00dae094573148375476bb6eca7243", func := "example.com/vestledger/vestledger/zzlaws_internal_input_b1.FnSkipStringMatchesParityModel", spec := "fnSkipStringMatchesParityModel", apart := false }
def FnSkipStringMatchesParityModelSaid : Prop := fnSkipStringMatchesParityModelRow.holds Try.pinned (OpenSpec.ofChange fnSkipStringMatchesParityModelSpec)

/-- ITS FALSE NEIGHBOUR: 'it returns false'. Refute it at one input. -/
def fnSkipStringMatchesParityModelWrong : ChangeSpec := { name := "fnSkipStringMatchesParityModel", fn := fun _ => fun
  | [d1, d2] => { results := [.lit (.bool false)], args := [d1, d2] }
  | _ => none }
def FnSkipStringMatchesParityModelWrongFalsely : Prop := fnSkipStringMatchesParityModelRow.holds Try.pinned (OpenSpec.ofChange fnSkipStringMatchesParityModelWrong)

/-- 'zzlaws_internal_input_b1.FnSkipMatchesRecursiveModel': WHATEVER THE INPUT: true; the input reads as it did. -/
def fnSkipMatchesRecursiveModelSpec : ChangeSpec := { name := "fnSkipMatchesRecursiveModel", fn := fun _ => fun
  | [d1, d2] => { results := [.lit (.bool true)], args := [d1, d2] }
  | _ => none }
def fnSkipMatchesRecursiveModelRow : OpenClaim := { program := "qxb6602166a", sum := "7526ef168273dcb85cda86fa089798753a00dae094573148375476bb6eca7243", func := "example.com/vestledger/vestledger/zzlaws_internal_input_b1.FnSkipMatchesRecursiveModel", spec := "fnSkipMatchesRecursiveModel", recurses := true, apart := false }
def FnSkipMatchesRecursiveModelSaid : Prop := fnSkipMatchesRecursiveModelRow.holds Try.pinned (OpenSpec.ofChange fnSkipMatchesRecursiveModelSpec)

/-- ITS FALSE NEIGHBOUR: 'it returns false'. Refute it at one input. -/
def fnSkipMatchesRecursiveModelWrong : ChangeSpec := { name := "fnSkipMatchesRecursiveModel", fn := fun _ => fun
  | [d1, d2] => { results := [.lit (.bool false)], args := [d1, d2] }
  | _ => none }
def FnSkipMatchesRecursiveModelWrongFalsely : Prop := fnSkipMatchesRecursiveModelRow.holds Try.pinned (OpenSpec.ofChange fnSkipMatchesRecursiveModelWrong)

/-- 'zzlaws_internal_input_b1.FnSkipIgnoresBytesOutsideItsContainer': WHATEVER THE INPUT: true; the input reads as it did. -/
def fnSkipIgnoresBytesOutsideItsContainerSpec : ChangeSpec := { name := "fnSkipIgnoresBytesOutsideItsContainer", fn := fun _ => fun
  | [d1, d2, d3, d4] => { results := [.lit (.bool true)], args := [d1, d2, d3, d4] }
  | _ => none }
def fnSkipIgnoresBytesOutsideItsContainerRow : OpenClaim := { program := "qxb6602166a", sum := "7526ef168273dcb85cda86fa089798753a00dae094573148375476bb6eca7243", func := "example.com/vestledger/vestledger/zzlaws_internal_input_b1.FnSkipIgnoresBytesOutsideItsContainer", spec := "fnSkipIgnoresBytesOutsideItsContainer", recurses := true, apart := false }
def FnSkipIgnoresBytesOutsideItsContainerSaid : Prop := fnSkipIgnoresBytesOutsideItsContainerRow.holds Try.pinned (OpenSpec.ofChange fnSkipIgnoresBytesOutsideItsContainerSpec)

/-- ITS FALSE NEIGHBOUR: 'it returns false'. Refute it at one input. -/
def fnSkipIgnoresBytesOutsideItsContainerWrong : ChangeSpec := { name := "fnSkipIgnoresBytesOutsideItsContainer", fn := fun _ => fun
  | [d1, d2, d3, d4] => { results := [.lit (.bool false)], args := [d1, d2, d3, d4] }
  | _ => none }
def FnSkipIgnoresBytesOutsideItsContainerWrongFalsely : Prop := fnSkipIgnoresBytesOutsideItsContainerRow.holds Try.pinned (OpenSpec.ofChange fnSkipIgnoresBytesOutsideItsContainerWrong)

end Rows
end Go.Proofs.Qxb6602166a
