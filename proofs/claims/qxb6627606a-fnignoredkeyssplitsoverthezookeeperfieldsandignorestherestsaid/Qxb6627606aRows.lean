/-
  NARROWER THAN 'FOR EVERY INPUT', by the rows' own cells (each row's printed sentence says how): FnIgnoredKeysSplitsOverTheZooKeeperFieldsAndIgnoresTheRest: maps.
  DERIVED. THE GIVEN ROWS OF THIS SEAT. 1 by the template 'for every input the law returns true; each argument reads behind the call as it read before'; 0 by the template 'total and deterministic' (their statements: Qxb6627606aTotals.lean).
  GIVEN WITH THE SEED: the statements are not yours to turn. If you find one false, say at which input.
  Laid BY PROGRAM, IN A SANDBOX (cutbox-rows.mjs): the forced cells as the released guide's own fill.sh prints them over the translation 7c3a404f6f9a57d1… (all of the seat's roots in one cut). By AI agents, Wed Nov 11 2026. No macro, syntax, notation, axiom, sorry.
-/
import Derived.Test.Qxb6627606aChecked
import GoSem.Claim
import GoSem.ClaimJoined
import GoSem.ClaimMapViews
import Derived.JoinedTies
import Derived.KernelRfl
namespace Go.Proofs.Qxb6627606a
/- THE CELL 'sum', in the pinned program and in every row, IS THE sha256 OF THE DUMP (.gsa) THAT Qxb6627606aProg.lean LOADS. Nothing in Lean hashes anything: it is a label: what it is worth is what the hold of that sum in a sandbox is worth. -/
noncomputable def Try.pinned : Pinned := { name := "qxb6627606a", sum := "7c3a404f6f9a57d19b40d8ec40f24c504b6e5e93ecaa54382c5d3e2a24195958", checked := Try.checked }
namespace Rows
def none {H : Type} : Left H := { results := [], args := [] }

/-- 'zzlaws_internal_config_b1.FnIgnoredKeysSplitsOverTheZooKeeperFieldsAndIgnoresTheRest': WHATEVER THE INPUT: true; the input reads as it did. -/
def fnIgnoredKeysSplitsOverTheZooKeeperFieldsAndIgnoresTheRestSpec : ChangeSpec := { name := "fnIgnoredKeysSplitsOverTheZooKeeperFieldsAndIgnoresTheRest", fn := fun _ => fun
  | [d] => { results := [.lit (.bool true)], args := [d] }
  | _ => none }
def fnIgnoredKeysSplitsOverTheZooKeeperFieldsAndIgnoresTheRestRow : OpenClaim := { program := "qxb6627606a", sum := "7c3a404f6f9a57d19b40d8ec40f24c504b6e5e93ecaa54382c5d3e2a24195958", func := "example.com/topicsmith/topicsmith/zzlaws_internal_config_b1.FnIgnoredKeysSplitsOverTheZooKeeperFieldsAndIgnoresTheRest", spec := "fnIgnoredKeysSplitsOverTheZooKeeperFieldsAndIgnoresTheRest", maps := true, plainKeys := false, apart := false }
def FnIgnoredKeysSplitsOverTheZooKeeperFieldsAndIgnoresTheRestSaid : Prop := fnIgnoredKeysSplitsOverTheZooKeeperFieldsAndIgnoresTheRestRow.holds Try.pinned (OpenSpec.ofChange fnIgnoredKeysSplitsOverTheZooKeeperFieldsAndIgnoresTheRestSpec)

/-- ITS FALSE NEIGHBOUR: 'it returns false'. Refute it at one input. -/
def fnIgnoredKeysSplitsOverTheZooKeeperFieldsAndIgnoresTheRestWrong : ChangeSpec := { name := "fnIgnoredKeysSplitsOverTheZooKeeperFieldsAndIgnoresTheRest", fn := fun _ => fun
  | [d] => { results := [.lit (.bool false)], args := [d] }
  | _ => none }
def FnIgnoredKeysSplitsOverTheZooKeeperFieldsAndIgnoresTheRestWrongFalsely : Prop := fnIgnoredKeysSplitsOverTheZooKeeperFieldsAndIgnoresTheRestRow.holds Try.pinned (OpenSpec.ofChange fnIgnoredKeysSplitsOverTheZooKeeperFieldsAndIgnoresTheRestWrong)

end Rows
end Go.Proofs.Qxb6627606a
