/-
  DERIVED. GIVEN WITH THE SEED: THE CARDS: each row of YtcamjefacbaniaaGreatDoorRows.lean that lists a variable, with what it lists TIED to the program's text (the seventh form; the later family's looks); each row that meets fmt, with fmt's text TOLD by the authors' own Lean function (tested against real Go, not proved from fmt's source: count such statements apart). THE CARD IS WHAT COUNTS. Prove the row's statement (the work); the ties are given (YtcamjefacbaniaaGreatDoorTie.lean); close each card by the builder's one call (the guide's Derived/Test/ToyasCard.lean, 'card_holds'). Laid BY PROGRAM, IN A SANDBOX (cutbox-door.mjs). By AI agents, Wed Nov 11 2026. No macro, syntax, notation, axiom, sorry.
-/
import Derived.Test.YtcamjefacbaniaaGreatDoorRows
import GoSem.ClaimSeven
namespace Go.Proofs.YtcamjefacbaniaaGreatDoor
namespace Rows

/-- THE TIED CARD OF 'laws.FnTextLines'. -/
def fnTextLinesCard : Claim7 := { stood := { row := fnTextLinesRow, standIns := [], harness := (true, "98a3c57f609957b33b991b0db8b1eceef78b1645a7b48ce382faa72b2841ba38"), looks := true }, kinds := [], alts := [], laidByText := true, laidKinds := [.data, .pinned], laidTests := true, laidLooks := .later }
def FnTextLinesCardSaid : Prop := Claim7.holds Tryz.pinned (.plain (OpenSpec.ofChange fnTextLinesSpec)) fnTextLinesCard

/-- THE SECOND FORM's CARD OF 'laws.FnTextLines'. -/
def fnTextLinesUptoCard : Claim7 := { stood := { row := fnTextLinesUptoRow, standIns := [], harness := (true, "98a3c57f609957b33b991b0db8b1eceef78b1645a7b48ce382faa72b2841ba38"), looks := true }, kinds := [], alts := [], laidByText := true, laidKinds := [.data, .pinned], laidTests := true, laidLooks := .later }
def FnTextLinesUptoCardSaid : Prop := Claim7.holds Tryz.pinned (.plain (OpenSpec.upto fnTextLinesSpec)) fnTextLinesUptoCard
end Rows
end Go.Proofs.YtcamjefacbaniaaGreatDoor
