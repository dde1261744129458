/-
  DERIVED. GIVEN WITH THE SEED: THE CARDS: each row of YtmcemcpnhlmbhaaDoorRows.lean that lists a variable, with what it lists TIED to the program's text (the seventh form; the later family's looks); each row that meets fmt, with fmt's text TOLD by the authors' own Lean function (tested against real Go, not proved from fmt's source: count such statements apart). THE CARD IS WHAT COUNTS. Prove the row's statement (the work); the ties are given (YtmcemcpnhlmbhaaDoorTie.lean); close each card by the builder's one call (the guide's Derived/Test/ToyasCard.lean, 'card_holds'). Laid BY PROGRAM, IN A SANDBOX (cutbox-door.mjs). By AI agents, Wed Nov 11 2026. No macro, syntax, notation, axiom, sorry.
-/
import Derived.Test.YtmcemcpnhlmbhaaDoorRows
import GoSem.ClaimSeven
namespace Go.Proofs.YtmcemcpnhlmbhaaDoor
namespace Rows

/-- THE TIED CARD OF 'laws.FnBytesText'. -/
def fnBytesTextCard : Claim7 := { stood := { row := fnBytesTextRow, standIns := [], harness := (true, "ce292ceddbcb7c69262e5cbda143a2646ec00a15d336c8291f0835b31366f2e7"), looks := false }, kinds := [], alts := [], laidByText := true, laidKinds := [.data, .pinned, .pinned, .pinned, .pinned, .pinned], laidTests := true, laidLooks := .later }
def FnBytesTextCardSaid : Prop := Claim7.holds Tryd.pinned (.plain (OpenSpec.ofChange fnBytesTextSpec)) fnBytesTextCard

/-- THE SECOND FORM's CARD OF 'laws.FnBytesText'. -/
def fnBytesTextUptoCard : Claim7 := { stood := { row := fnBytesTextUptoRow, standIns := [], harness := (true, "ce292ceddbcb7c69262e5cbda143a2646ec00a15d336c8291f0835b31366f2e7"), looks := false }, kinds := [], alts := [], laidByText := true, laidKinds := [.data, .pinned, .pinned, .pinned, .pinned, .pinned], laidTests := true, laidLooks := .later }
def FnBytesTextUptoCardSaid : Prop := Claim7.holds Tryd.pinned (.plain (OpenSpec.upto fnBytesTextSpec)) fnBytesTextUptoCard
end Rows
end Go.Proofs.YtmcemcpnhlmbhaaDoor
