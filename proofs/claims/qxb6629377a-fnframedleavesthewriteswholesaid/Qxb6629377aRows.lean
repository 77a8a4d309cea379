/-
  No cell of these rows narrows 'for every input' (looked for: loops, veiled, ifaces, maps, wideKeys, modest, calm, conditions, laid).
  DERIVED. THE GIVEN ROWS OF THIS SEAT. 2 by the template 'for every input the law returns true; each argument reads behind the call as it read before'; 0 by the template 'total and deterministic' (their statements: Qxb6629377aTotals.lean).
  GIVEN WITH THE SEED: the statements are not yours to turn. If you find one false, say at which input.
  Laid BY PROGRAM, IN A SANDBOX (cutbox-rows.mjs): the forced cells as the released guide's own fill.sh prints them over the translation 1d175f7e681cbfc2… (all of the seat's roots in one cut). By AI agents, Wed Nov 11 2026. No macro, syntax, notation, axiom, sorry.
-/
import Derived.Test.Qxb6629377aChecked
import GoSem.Claim
import GoSem.ClaimJoined
import GoSem.ClaimMapViews
import Derived.JoinedTies
import Derived.KernelRfl
namespace Go.Proofs.Qxb6629377a
/- THE CELL 'sum', in the pinned program and in every row, IS THE sha256 OF THE DUMP (.gsa) THAT Qxb6629377aProg.lean LOADS. Nothing in Lean hashes anything: it is a label: what it is worth is what the hold of that sum in a sandbox is worth. -/
noncomputable def Try.pinned : Pinned := { name := "qxb6629377a", sum := "1d175f7e681cbfc233c38461c83b409fbac5d8f39d6ed1f1e0c82380985477e3", checked := Try.checked }
namespace Rows
def none {H : Type} : Left H := { results := [], args := [] }

/-- 'zzlaws_internal_store_b1.FnFramedIsHeadThenLogForm': WHATEVER THE INPUT: true; the input reads as it did. -/
def fnFramedIsHeadThenLogFormSpec : ChangeSpec := { name := "fnFramedIsHeadThenLogForm", fn := fun _ => fun
  | [d1, d2, d3, d4, d5, d6, d7, d8] => { results := [.lit (.bool true)], args := [d1, d2, d3, d4, d5, d6, d7, d8] }
  | _ => none }
def fnFramedIsHeadThenLogFormRow : OpenClaim := { program := "qxb6629377a", sum := "1d175f7e681cbfc233c38461c83b409fbac5d8f39d6ed1f1e0c82380985477e3", func := "example.com/broadstate/broadstate/zzlaws_internal_store_b1.FnFramedIsHeadThenLogForm", spec := "fnFramedIsHeadThenLogForm", apart := false }
def FnFramedIsHeadThenLogFormSaid : Prop := fnFramedIsHeadThenLogFormRow.holds Try.pinned (OpenSpec.ofChange fnFramedIsHeadThenLogFormSpec)

/-- ITS FALSE NEIGHBOUR: 'it returns false'. Refute it at one input. -/
def fnFramedIsHeadThenLogFormWrong : ChangeSpec := { name := "fnFramedIsHeadThenLogForm", fn := fun _ => fun
  | [d1, d2, d3, d4, d5, d6, d7, d8] => { results := [.lit (.bool false)], args := [d1, d2, d3, d4, d5, d6, d7, d8] }
  | _ => none }
def FnFramedIsHeadThenLogFormWrongFalsely : Prop := fnFramedIsHeadThenLogFormRow.holds Try.pinned (OpenSpec.ofChange fnFramedIsHeadThenLogFormWrong)

/-- 'zzlaws_internal_store_b1.FnFramedLeavesTheWritesWhole': WHATEVER THE INPUT: true; the input reads as it did. -/
def fnFramedLeavesTheWritesWholeSpec : ChangeSpec := { name := "fnFramedLeavesTheWritesWhole", fn := fun _ => fun
  | [d1, d2, d3, d4, d5, d6, d7, d8] => { results := [.lit (.bool true)], args := [d1, d2, d3, d4, d5, d6, d7, d8] }
  | _ => none }
def fnFramedLeavesTheWritesWholeRow : OpenClaim := { program := "qxb6629377a", sum := "1d175f7e681cbfc233c38461c83b409fbac5d8f39d6ed1f1e0c82380985477e3", func := "example.com/broadstate/broadstate/zzlaws_internal_store_b1.FnFramedLeavesTheWritesWhole", spec := "fnFramedLeavesTheWritesWhole", apart := false }
def FnFramedLeavesTheWritesWholeSaid : Prop := fnFramedLeavesTheWritesWholeRow.holds Try.pinned (OpenSpec.ofChange fnFramedLeavesTheWritesWholeSpec)

/-- ITS FALSE NEIGHBOUR: 'it returns false'. Refute it at one input. -/
def fnFramedLeavesTheWritesWholeWrong : ChangeSpec := { name := "fnFramedLeavesTheWritesWhole", fn := fun _ => fun
  | [d1, d2, d3, d4, d5, d6, d7, d8] => { results := [.lit (.bool false)], args := [d1, d2, d3, d4, d5, d6, d7, d8] }
  | _ => none }
def FnFramedLeavesTheWritesWholeWrongFalsely : Prop := fnFramedLeavesTheWritesWholeRow.holds Try.pinned (OpenSpec.ofChange fnFramedLeavesTheWritesWholeWrong)

end Rows
end Go.Proofs.Qxb6629377a
