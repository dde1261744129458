/-
  DERIVED. GIVEN WITH THE SEED: THE CARDS: each row of YtikjdibngkcpkaaDoorRows.lean that lists a variable, with what it lists TIED to the program's text (the seventh form; the later family's looks); each row that meets fmt, with fmt's text TOLD by the authors' own Lean function (tested against real Go, not proved from fmt's source: count such statements apart). THE CARD IS WHAT COUNTS. Prove the row's statement (the work); the ties are given (YtikjdibngkcpkaaDoorTie.lean); close each card by the builder's one call (the guide's Derived/Test/ToyasCard.lean, 'card_holds'). Laid BY PROGRAM, IN A SANDBOX (cutbox-door.mjs). By AI agents, Wed Nov 11 2026. No macro, syntax, notation, axiom, sorry.
-/
import Derived.Test.YtikjdibngkcpkaaDoorRows
import GoSem.ClaimSeven
namespace Go.Proofs.YtikjdibngkcpkaaDoor
namespace Rows

/-- THE TIED CARD OF 'laws.FnIntMul'. -/
def fnIntMulCard : Claim7 := { stood := { row := fnIntMulRow, standIns := [], harness := (true, "e47193517f9b2758193cc1d59d95e55eb589fe4aac460d4d75d6137120e59faf"), looks := false }, kinds := [], alts := [], laidByText := true, laidKinds := [.data, .data, .data], laidTests := true, laidLooks := .later }
def FnIntMulCardSaid : Prop := Claim7.holds Tryd.pinned (.plain (OpenSpec.ofChange fnIntMulSpec)) fnIntMulCard

/-- THE SECOND FORM's CARD OF 'laws.FnIntMul'. -/
def fnIntMulUptoCard : Claim7 := { stood := { row := fnIntMulUptoRow, standIns := [], harness := (true, "e47193517f9b2758193cc1d59d95e55eb589fe4aac460d4d75d6137120e59faf"), looks := false }, kinds := [], alts := [], laidByText := true, laidKinds := [.data, .data, .data], laidTests := true, laidLooks := .later }
def FnIntMulUptoCardSaid : Prop := Claim7.holds Tryd.pinned (.plain (OpenSpec.upto fnIntMulSpec)) fnIntMulUptoCard
end Rows
end Go.Proofs.YtikjdibngkcpkaaDoor
