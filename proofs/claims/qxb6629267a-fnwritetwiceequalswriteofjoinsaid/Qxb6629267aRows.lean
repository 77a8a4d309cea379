/-
  No cell of these rows narrows 'for every input' (looked for: loops, veiled, ifaces, maps, wideKeys, modest, calm, conditions, laid).
  DERIVED. THE GIVEN ROWS OF THIS SEAT. 2 by the template 'for every input the law returns true; each argument reads behind the call as it read before'; 0 by the template 'total and deterministic' (their statements: Qxb6629267aTotals.lean).
  GIVEN WITH THE SEED: the statements are not yours to turn. If you find one false, say at which input.
  Laid BY PROGRAM, IN A SANDBOX (cutbox-rows.mjs): the forced cells as the released guide's own fill.sh prints them over the translation 670576856c67351c… (all of the seat's roots in one cut). By AI agents, Wed Nov 11 2026. No macro, syntax, notation, axiom, sorry.
-/
import Derived.Test.Qxb6629267aChecked
import GoSem.Claim
import GoSem.ClaimJoined
import GoSem.ClaimMapViews
import Derived.JoinedTies
import Derived.KernelRfl
namespace Go.Proofs.Qxb6629267a
/- THE CELL 'sum', in the pinned program and in every row, IS THE sha256 OF THE DUMP (.gsa) THAT Qxb6629267aProg.lean LOADS. Nothing in Lean hashes anything: it is a label: what it is worth is what the hold of that sum in a sandbox is worth. -/
noncomputable def Try.pinned : Pinned := { name := "qxb6629267a", sum := "670576856c67351ca5829644c711169e2c82eb86a490c31793eed2fe8708cf04", checked := Try.checked }
namespace Rows
def none {H : Type} : Left H := { results := [], args := [] }

/-- 'zzlaws_internal_sqlparse_b1.FnWriteTwiceEqualsWriteOfJoin': WHATEVER THE INPUT: true; the input reads as it did. -/
def fnWriteTwiceEqualsWriteOfJoinSpec : ChangeSpec := { name := "fnWriteTwiceEqualsWriteOfJoin", fn := fun _ => fun
  | [d1, d2, d3, d4, d5, d6, d7, d8] => { results := [.lit (.bool true)], args := [d1, d2, d3, d4, d5, d6, d7, d8] }
  | _ => none }
def fnWriteTwiceEqualsWriteOfJoinRow : OpenClaim := { program := "qxb6629267a", sum := "670576856c67351ca5829644c711169e2c82eb86a490c31793eed2fe8708cf04", func := "example.com/undoline/undoline/zzlaws_internal_sqlparse_b1.FnWriteTwiceEqualsWriteOfJoin", spec := "fnWriteTwiceEqualsWriteOfJoin", inPlace := ["internal/abi.NoEscape"], apart := false }
def FnWriteTwiceEqualsWriteOfJoinSaid : Prop := fnWriteTwiceEqualsWriteOfJoinRow.holds Try.pinned (OpenSpec.ofChange fnWriteTwiceEqualsWriteOfJoinSpec)

/-- ITS FALSE NEIGHBOUR: 'it returns false'. Refute it at one input. -/
def fnWriteTwiceEqualsWriteOfJoinWrong : ChangeSpec := { name := "fnWriteTwiceEqualsWriteOfJoin", fn := fun _ => fun
  | [d1, d2, d3, d4, d5, d6, d7, d8] => { results := [.lit (.bool false)], args := [d1, d2, d3, d4, d5, d6, d7, d8] }
  | _ => none }
def FnWriteTwiceEqualsWriteOfJoinWrongFalsely : Prop := fnWriteTwiceEqualsWriteOfJoinRow.holds Try.pinned (OpenSpec.ofChange fnWriteTwiceEqualsWriteOfJoinWrong)

/-- 'zzlaws_internal_sqlparse_b1.FnWriteScriptFromZeroConcatenates': WHATEVER THE INPUT: true; the input reads as it did. -/
def fnWriteScriptFromZeroConcatenatesSpec : ChangeSpec := { name := "fnWriteScriptFromZeroConcatenates", fn := fun _ => fun
  | [d] => { results := [.lit (.bool true)], args := [d] }
  | _ => none }
def fnWriteScriptFromZeroConcatenatesRow : OpenClaim := { program := "qxb6629267a", sum := "670576856c67351ca5829644c711169e2c82eb86a490c31793eed2fe8708cf04", func := "example.com/undoline/undoline/zzlaws_internal_sqlparse_b1.FnWriteScriptFromZeroConcatenates", spec := "fnWriteScriptFromZeroConcatenates", inPlace := ["internal/abi.NoEscape"], apart := false }
def FnWriteScriptFromZeroConcatenatesSaid : Prop := fnWriteScriptFromZeroConcatenatesRow.holds Try.pinned (OpenSpec.ofChange fnWriteScriptFromZeroConcatenatesSpec)

/-- ITS FALSE NEIGHBOUR: 'it returns false'. Refute it at one input. -/
def fnWriteScriptFromZeroConcatenatesWrong : ChangeSpec := { name := "fnWriteScriptFromZeroConcatenates", fn := fun _ => fun
  | [d] => { results := [.lit (.bool false)], args := [d] }
  | _ => none }
def FnWriteScriptFromZeroConcatenatesWrongFalsely : Prop := fnWriteScriptFromZeroConcatenatesRow.holds Try.pinned (OpenSpec.ofChange fnWriteScriptFromZeroConcatenatesWrong)

end Rows
end Go.Proofs.Qxb6629267a
