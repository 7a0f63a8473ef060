/-
  No cell of these rows narrows 'for every input' (looked for: loops, veiled, ifaces, maps, wideKeys, modest, calm, conditions, laid).
  DERIVED. THE GIVEN ROWS OF THIS SEAT. 2 by the template 'for every input the law returns true; each argument reads behind the call as it read before'; 0 by the template 'total and deterministic' (their statements: Qxb6627683aTotals.lean).
  GIVEN WITH THE SEED: the statements are not yours to turn. If you find one false, say at which input.
  Laid BY PROGRAM, IN A SANDBOX (cutbox-rows.mjs): the forced cells as the released guide's own fill.sh prints them over the translation 88264e44caa2c0b4… (all of the seat's roots in one cut). By AI agents, Wed Nov 11 2026. No macro, syntax, notation, axiom, sorry.
-/
import Derived.Test.Qxb6627683aChecked
import GoSem.Claim
import GoSem.ClaimJoined
import GoSem.ClaimMapViews
import Derived.JoinedTies
import Derived.KernelRfl
namespace Go.Proofs.Qxb6627683a
/- THE CELL 'sum', in the pinned program and in every row, IS THE sha256 OF THE DUMP (.gsa) THAT Qxb6627683aProg.lean LOADS. Nothing in Lean hashes anything: it is a label: what it is worth is what the hold of that sum in a sandbox is worth. -/
noncomputable def Try.pinned : Pinned := { name := "qxb6627683a", sum := "88264e44caa2c0b476e0914c95b53cb87135af2a9f663b462bd43656214d6cc3", checked := Try.checked }
namespace Rows
def none {H : Type} : Left H := { results := [], args := [] }

/-- 'zzlaws_vclog_b1.FnHostsIsSortedSetAndJoinsOverCut': WHATEVER THE INPUT: true; the input reads as it did. -/
def fnHostsIsSortedSetAndJoinsOverCutSpec : ChangeSpec := { name := "fnHostsIsSortedSetAndJoinsOverCut", fn := fun _ => fun
  | [d1, d2] => { results := [.lit (.bool true)], args := [d1, d2] }
  | _ => none }
def fnHostsIsSortedSetAndJoinsOverCutRow : OpenClaim := { program := "qxb6627683a", sum := "88264e44caa2c0b476e0914c95b53cb87135af2a9f663b462bd43656214d6cc3", func := "example.com/forerun/forerun/zzlaws_vclog_b1.FnHostsIsSortedSetAndJoinsOverCut", spec := "fnHostsIsSortedSetAndJoinsOverCut", recurses := true, apart := false }
def FnHostsIsSortedSetAndJoinsOverCutSaid : Prop := fnHostsIsSortedSetAndJoinsOverCutRow.holds Try.pinned (OpenSpec.ofChange fnHostsIsSortedSetAndJoinsOverCutSpec)

/-- ITS FALSE NEIGHBOUR: 'it returns false'. Refute it at one input. -/
def fnHostsIsSortedSetAndJoinsOverCutWrong : ChangeSpec := { name := "fnHostsIsSortedSetAndJoinsOverCut", fn := fun _ => fun
  | [d1, d2] => { results := [.lit (.bool false)], args := [d1, d2] }
  | _ => none }
def FnHostsIsSortedSetAndJoinsOverCutWrongFalsely : Prop := fnHostsIsSortedSetAndJoinsOverCutRow.holds Try.pinned (OpenSpec.ofChange fnHostsIsSortedSetAndJoinsOverCutWrong)

/-- 'zzlaws_vclog_b1.FnHostsOrderFreeAndCallersOwn': WHATEVER THE INPUT: true; the input reads as it did. -/
def fnHostsOrderFreeAndCallersOwnSpec : ChangeSpec := { name := "fnHostsOrderFreeAndCallersOwn", fn := fun _ => fun
  | [d1, d2] => { results := [.lit (.bool true)], args := [d1, d2] }
  | _ => none }
def fnHostsOrderFreeAndCallersOwnRow : OpenClaim := { program := "qxb6627683a", sum := "88264e44caa2c0b476e0914c95b53cb87135af2a9f663b462bd43656214d6cc3", func := "example.com/forerun/forerun/zzlaws_vclog_b1.FnHostsOrderFreeAndCallersOwn", spec := "fnHostsOrderFreeAndCallersOwn", recurses := true, apart := false }
def FnHostsOrderFreeAndCallersOwnSaid : Prop := fnHostsOrderFreeAndCallersOwnRow.holds Try.pinned (OpenSpec.ofChange fnHostsOrderFreeAndCallersOwnSpec)

/-- ITS FALSE NEIGHBOUR: 'it returns false'. Refute it at one input. -/
def fnHostsOrderFreeAndCallersOwnWrong : ChangeSpec := { name := "fnHostsOrderFreeAndCallersOwn", fn := fun _ => fun
  | [d1, d2] => { results := [.lit (.bool false)], args := [d1, d2] }
  | _ => none }
def FnHostsOrderFreeAndCallersOwnWrongFalsely : Prop := fnHostsOrderFreeAndCallersOwnRow.holds Try.pinned (OpenSpec.ofChange fnHostsOrderFreeAndCallersOwnWrong)

end Rows
end Go.Proofs.Qxb6627683a
