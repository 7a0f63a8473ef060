/-
  No cell of these rows narrows 'for every input' (looked for: loops, veiled, ifaces, maps, wideKeys, modest, calm, conditions, laid).
  DERIVED. THE GIVEN ROWS OF THIS SEAT. 2 by the template 'for every input the law returns true; each argument reads behind the call as it read before'; 0 by the template 'total and deterministic' (their statements: Qxb6627644aTotals.lean).
  GIVEN WITH THE SEED: the statements are not yours to turn. If you find one false, say at which input.
  Laid BY PROGRAM, IN A SANDBOX (cutbox-rows.mjs): the forced cells as the released guide's own fill.sh prints them over the translation 7123be95b02650f2… (all of the seat's roots in one cut). By AI agents, Wed Nov 11 2026. No macro, syntax, notation, axiom, sorry.
-/
import Derived.Test.Qxb6627644aChecked
import GoSem.Claim
import GoSem.ClaimJoined
import GoSem.ClaimMapViews
import Derived.JoinedTies
import Derived.KernelRfl
namespace Go.Proofs.Qxb6627644a
/- THE CELL 'sum', in the pinned program and in every row, IS THE sha256 OF THE DUMP (.gsa) THAT Qxb6627644aProg.lean LOADS. Nothing in Lean hashes anything: it is a label: what it is worth is what the hold of that sum in a sandbox is worth. -/
noncomputable def Try.pinned : Pinned := { name := "qxb6627644a", sum := "7123be95b02650f20479f633ee149f4b85b2013f097b7a1bec41d07f353efc56", checked := Try.checked }
namespace Rows
def none {H : Type} : Left H := { results := [], args := [] }

/-- 'zzlaws_root_b1.FnParseUnitsAgreesWithModel': WHATEVER THE INPUT: true; the input reads as it did. -/
def fnParseUnitsAgreesWithModelSpec : ChangeSpec := { name := "fnParseUnitsAgreesWithModel", fn := fun _ => fun
  | [d] => { results := [.lit (.bool true)], args := [d] }
  | _ => none }
def fnParseUnitsAgreesWithModelRow : OpenClaim := { program := "qxb6627644a", sum := "7123be95b02650f20479f633ee149f4b85b2013f097b7a1bec41d07f353efc56", func := "example.com/floorline/floorline/zzlaws_root_b1.FnParseUnitsAgreesWithModel", spec := "fnParseUnitsAgreesWithModel", apart := false }
def FnParseUnitsAgreesWithModelSaid : Prop := fnParseUnitsAgreesWithModelRow.holds Try.pinned (OpenSpec.ofChange fnParseUnitsAgreesWithModelSpec)

/-- ITS FALSE NEIGHBOUR: 'it returns false'. Refute it at one input. -/
def fnParseUnitsAgreesWithModelWrong : ChangeSpec := { name := "fnParseUnitsAgreesWithModel", fn := fun _ => fun
  | [d] => { results := [.lit (.bool false)], args := [d] }
  | _ => none }
def FnParseUnitsAgreesWithModelWrongFalsely : Prop := fnParseUnitsAgreesWithModelRow.holds Try.pinned (OpenSpec.ofChange fnParseUnitsAgreesWithModelWrong)

/-- 'zzlaws_root_b1.FnParseUnitsCutAnywhere': WHATEVER THE INPUT: true; the input reads as it did. -/
def fnParseUnitsCutAnywhereSpec : ChangeSpec := { name := "fnParseUnitsCutAnywhere", fn := fun _ => fun
  | [d1, d2] => { results := [.lit (.bool true)], args := [d1, d2] }
  | _ => none }
def fnParseUnitsCutAnywhereRow : OpenClaim := { program := "qxb6627644a", sum := "7123be95b02650f20479f633ee149f4b85b2013f097b7a1bec41d07f353efc56", func := "example.com/floorline/floorline/zzlaws_root_b1.FnParseUnitsCutAnywhere", spec := "fnParseUnitsCutAnywhere", apart := false }
def FnParseUnitsCutAnywhereSaid : Prop := fnParseUnitsCutAnywhereRow.holds Try.pinned (OpenSpec.ofChange fnParseUnitsCutAnywhereSpec)

/-- ITS FALSE NEIGHBOUR: 'it returns false'. Refute it at one input. -/
def fnParseUnitsCutAnywhereWrong : ChangeSpec := { name := "fnParseUnitsCutAnywhere", fn := fun _ => fun
  | [d1, d2] => { results := [.lit (.bool false)], args := [d1, d2] }
  | _ => none }
def FnParseUnitsCutAnywhereWrongFalsely : Prop := fnParseUnitsCutAnywhereRow.holds Try.pinned (OpenSpec.ofChange fnParseUnitsCutAnywhereWrong)

end Rows
end Go.Proofs.Qxb6627644a
