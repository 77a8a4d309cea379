/-
  DERIVED. GIVEN WITH THE SEED: THE CARDS: each row of Qxb6629317aDoorRows.lean that lists a variable, with what it lists TIED to the program's text (the seventh form; the later family's looks); each row that meets fmt, with fmt's text TOLD by the authors' own Lean function (tested against real Go, not proved from fmt's source: count such statements apart). THE CARD IS WHAT COUNTS. Prove the row's statement (the work); the ties are given (Qxb6629317aDoorTie.lean); close each card by the builder's one call (the guide's Derived/Test/ToyasCard.lean, 'card_holds'). Laid BY PROGRAM, IN A SANDBOX (cutbox-door.mjs). By AI agents, Wed Nov 11 2026. No macro, syntax, notation, axiom, sorry.
-/
import Derived.Test.Qxb6629317aDoorRows
import GoSem.ClaimSeven
namespace Go.Proofs.Qxb6629317aDoor
namespace Rows

/-- THE TIED CARD OF 'zzlaws_resp_b1.FnAppendRequestKeepsDstAndDecodes'. -/
def fnAppendRequestKeepsDstAndDecodesCard : Claim7 := { stood := { row := fnAppendRequestKeepsDstAndDecodesRow, standIns := [], harness := (true, "0e6973c96e4a84eb99788b17d909c91a06544b28e2b7046328c5423267115f05"), looks := false }, kinds := [], alts := [], laidByText := true, laidKinds := [.data, .data, .data], laidTests := true, laidLooks := .later }
def FnAppendRequestKeepsDstAndDecodesCardSaid : Prop := Claim7.holds Tryd.pinned (.plain (OpenSpec.ofChange fnAppendRequestKeepsDstAndDecodesSpec)) fnAppendRequestKeepsDstAndDecodesCard

/-- THE TIED CARD OF 'zzlaws_resp_b1.FnAppendRequestSplitsAtAnyCut'. -/
def fnAppendRequestSplitsAtAnyCutCard : Claim7 := { stood := { row := fnAppendRequestSplitsAtAnyCutRow, standIns := [], harness := (true, "0e6973c96e4a84eb99788b17d909c91a06544b28e2b7046328c5423267115f05"), looks := false }, kinds := [], alts := [], laidByText := true, laidKinds := [.data, .data, .data], laidTests := true, laidLooks := .later }
def FnAppendRequestSplitsAtAnyCutCardSaid : Prop := Claim7.holds Tryd.pinned (.plain (OpenSpec.ofChange fnAppendRequestSplitsAtAnyCutSpec)) fnAppendRequestSplitsAtAnyCutCard
end Rows
end Go.Proofs.Qxb6629317aDoor
