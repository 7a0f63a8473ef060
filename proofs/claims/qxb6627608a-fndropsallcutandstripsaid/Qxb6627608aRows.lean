/-
  No cell of these rows narrows 'for every input' (looked for: loops, veiled, ifaces, maps, wideKeys, modest, calm, conditions, laid).
  DERIVED. THE GIVEN ROWS OF THIS SEAT. 2 by the template 'for every input the law returns true; each argument reads behind the call as it read before'; 0 by the template 'total and deterministic' (their statements: Qxb6627608aTotals.lean).
  GIVEN WITH THE SEED: the statements are not yours to turn. If you find one false, say at which input.
  Laid BY PROGRAM, IN A SANDBOX (cutbox-rows.mjs): the forced cells as the released guide's own fill.sh prints them over the translation 5a9b8d0e6db5d34f… (all of the seat's roots in one cut). By AI agents, Wed Nov 11 2026. No macro, syntax, notation, axiom, sorry.
-/
import Derived.Test.Qxb6627608aChecked
import GoSem.Claim
import GoSem.ClaimJoined
import GoSem.ClaimMapViews
import Derived.JoinedTies
import Derived.KernelRfl
namespace Go.Proofs.Qxb6627608a
/- THE CELL 'sum', in the pinned program and in every row, IS THE sha256 OF THE DUMP (.gsa) THAT Qxb6627608aProg.lean LOADS. Nothing in Lean hashes anything: it is a label: what it is worth is what the hold of that sum in a sandbox is worth. -/
noncomputable def Try.pinned : Pinned := { name := "qxb6627608a", sum := "5a9b8d0e6db5d34f6c6c0dedc2059b27fb48af0459663c4c72d3d3982ce9412a", checked := Try.checked }
namespace Rows
def none {H : Type} : Left H := { results := [], args := [] }

/-- 'zzlaws_api_b1.FnDropsAllInsertAnywhere': WHATEVER THE INPUT: true; the input reads as it did. -/
def fnDropsAllInsertAnywhereSpec : ChangeSpec := { name := "fnDropsAllInsertAnywhere", fn := fun _ => fun
  | [d1, d2, d3] => { results := [.lit (.bool true)], args := [d1, d2, d3] }
  | _ => none }
def fnDropsAllInsertAnywhereRow : OpenClaim := { program := "qxb6627608a", sum := "5a9b8d0e6db5d34f6c6c0dedc2059b27fb48af0459663c4c72d3d3982ce9412a", func := "example.com/finishline/finishline/zzlaws_api_b1.FnDropsAllInsertAnywhere", spec := "fnDropsAllInsertAnywhere", apart := false }
def FnDropsAllInsertAnywhereSaid : Prop := fnDropsAllInsertAnywhereRow.holds Try.pinned (OpenSpec.ofChange fnDropsAllInsertAnywhereSpec)

/-- ITS FALSE NEIGHBOUR: 'it returns false'. Refute it at one input. -/
def fnDropsAllInsertAnywhereWrong : ChangeSpec := { name := "fnDropsAllInsertAnywhere", fn := fun _ => fun
  | [d1, d2, d3] => { results := [.lit (.bool false)], args := [d1, d2, d3] }
  | _ => none }
def FnDropsAllInsertAnywhereWrongFalsely : Prop := fnDropsAllInsertAnywhereRow.holds Try.pinned (OpenSpec.ofChange fnDropsAllInsertAnywhereWrong)

/-- 'zzlaws_api_b1.FnDropsAllCutAndStrip': WHATEVER THE INPUT: true; the input reads as it did. -/
def fnDropsAllCutAndStripSpec : ChangeSpec := { name := "fnDropsAllCutAndStrip", fn := fun _ => fun
  | [d1, d2] => { results := [.lit (.bool true)], args := [d1, d2] }
  | _ => none }
def fnDropsAllCutAndStripRow : OpenClaim := { program := "qxb6627608a", sum := "5a9b8d0e6db5d34f6c6c0dedc2059b27fb48af0459663c4c72d3d3982ce9412a", func := "example.com/finishline/finishline/zzlaws_api_b1.FnDropsAllCutAndStrip", spec := "fnDropsAllCutAndStrip", apart := false }
def FnDropsAllCutAndStripSaid : Prop := fnDropsAllCutAndStripRow.holds Try.pinned (OpenSpec.ofChange fnDropsAllCutAndStripSpec)

/-- ITS FALSE NEIGHBOUR: 'it returns false'. Refute it at one input. -/
def fnDropsAllCutAndStripWrong : ChangeSpec := { name := "fnDropsAllCutAndStrip", fn := fun _ => fun
  | [d1, d2] => { results := [.lit (.bool false)], args := [d1, d2] }
  | _ => none }
def FnDropsAllCutAndStripWrongFalsely : Prop := fnDropsAllCutAndStripRow.holds Try.pinned (OpenSpec.ofChange fnDropsAllCutAndStripWrong)

end Rows
end Go.Proofs.Qxb6627608a
