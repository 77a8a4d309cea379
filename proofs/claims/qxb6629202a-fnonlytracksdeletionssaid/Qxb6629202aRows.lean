/-
  No cell of these rows narrows 'for every input' (looked for: loops, veiled, ifaces, maps, wideKeys, modest, calm, conditions, laid).
  DERIVED. THE GIVEN ROWS OF THIS SEAT. 2 by the template 'for every input the law returns true; each argument reads behind the call as it read before'; 0 by the template 'total and deterministic' (their statements: Qxb6629202aTotals.lean).
  GIVEN WITH THE SEED: the statements are not yours to turn. If you find one false, say at which input.
  Laid BY PROGRAM, IN A SANDBOX (cutbox-rows.mjs): the forced cells as the released guide's own fill.sh prints them over the translation c7ede25e3487de79… (all of the seat's roots in one cut). By AI agents, Wed Nov 11 2026. No macro, syntax, notation, axiom, sorry.
-/
import Derived.Test.Qxb6629202aChecked
import GoSem.Claim
import GoSem.ClaimJoined
import GoSem.ClaimMapViews
import Derived.JoinedTies
import Derived.KernelRfl
namespace Go.Proofs.Qxb6629202a
/- THE CELL 'sum', in the pinned program and in every row, IS THE sha256 OF THE DUMP (.gsa) THAT Qxb6629202aProg.lean LOADS. Nothing in Lean hashes anything: it is a label: what it is worth is what the hold of that sum in a sandbox is worth. -/
noncomputable def Try.pinned : Pinned := { name := "qxb6629202a", sum := "c7ede25e3487de79305ac2ac7e92f9caf695cd75be7d8d6848445b9dc024ecd2", checked := Try.checked }
namespace Rows
def none {H : Type} : Left H := { results := [], args := [] }

/-- 'zzlaws_pkg_policy_b1.FnOnlyTracksInsertions': WHATEVER THE INPUT: true; the input reads as it did. -/
def fnOnlyTracksInsertionsSpec : ChangeSpec := { name := "fnOnlyTracksInsertions", fn := fun _ => fun
  | [d] => { results := [.lit (.bool true)], args := [d] }
  | _ => none }
def fnOnlyTracksInsertionsRow : OpenClaim := { program := "qxb6629202a", sum := "c7ede25e3487de79305ac2ac7e92f9caf695cd75be7d8d6848445b9dc024ecd2", func := "example.com/rankgate/rankgate/zzlaws_pkg_policy_b1.FnOnlyTracksInsertions", spec := "fnOnlyTracksInsertions", apart := false }
def FnOnlyTracksInsertionsSaid : Prop := fnOnlyTracksInsertionsRow.holds Try.pinned (OpenSpec.ofChange fnOnlyTracksInsertionsSpec)

/-- ITS FALSE NEIGHBOUR: 'it returns false'. Refute it at one input. -/
def fnOnlyTracksInsertionsWrong : ChangeSpec := { name := "fnOnlyTracksInsertions", fn := fun _ => fun
  | [d] => { results := [.lit (.bool false)], args := [d] }
  | _ => none }
def FnOnlyTracksInsertionsWrongFalsely : Prop := fnOnlyTracksInsertionsRow.holds Try.pinned (OpenSpec.ofChange fnOnlyTracksInsertionsWrong)

/-- 'zzlaws_pkg_policy_b1.FnOnlyTracksDeletions': WHATEVER THE INPUT: true; the input reads as it did. -/
def fnOnlyTracksDeletionsSpec : ChangeSpec := { name := "fnOnlyTracksDeletions", fn := fun _ => fun
  | [d] => { results := [.lit (.bool true)], args := [d] }
  | _ => none }
def fnOnlyTracksDeletionsRow : OpenClaim := { program := "qxb6629202a", sum := "c7ede25e3487de79305ac2ac7e92f9caf695cd75be7d8d6848445b9dc024ecd2", func := "example.com/rankgate/rankgate/zzlaws_pkg_policy_b1.FnOnlyTracksDeletions", spec := "fnOnlyTracksDeletions", apart := false }
def FnOnlyTracksDeletionsSaid : Prop := fnOnlyTracksDeletionsRow.holds Try.pinned (OpenSpec.ofChange fnOnlyTracksDeletionsSpec)

/-- ITS FALSE NEIGHBOUR: 'it returns false'. Refute it at one input. -/
def fnOnlyTracksDeletionsWrong : ChangeSpec := { name := "fnOnlyTracksDeletions", fn := fun _ => fun
  | [d] => { results := [.lit (.bool false)], args := [d] }
  | _ => none }
def FnOnlyTracksDeletionsWrongFalsely : Prop := fnOnlyTracksDeletionsRow.holds Try.pinned (OpenSpec.ofChange fnOnlyTracksDeletionsWrong)

end Rows
end Go.Proofs.Qxb6629202a
