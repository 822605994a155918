/-
  DERIVED. GIVEN WITH THE SEED: THE CARDS: each row of YtkploaapcpjkbaaGreatDoorRows.lean that lists a variable, with what it lists TIED to the program's text (the seventh form; the later family's looks); each row that meets fmt, with fmt's text TOLD by the authors' own Lean function (tested against real Go, not proved from fmt's source: count such statements apart). THE CARD IS WHAT COUNTS. Prove the row's statement (the work); the ties are given (YtkploaapcpjkbaaGreatDoorTie.lean); close each card by the builder's one call (the guide's Derived/Test/ToyasCard.lean, 'card_holds'). Laid BY PROGRAM, IN A SANDBOX (cutbox-door.mjs). By AI agents, Wed Nov 11 2026. No macro, syntax, notation, axiom, sorry.
-/
import Derived.Test.YtkploaapcpjkbaaGreatDoorRows
import GoSem.ClaimSeven
namespace Go.Proofs.YtkploaapcpjkbaaGreatDoor
namespace Rows

/-- THE TIED CARD OF 'laws.FnTextWhole'. -/
def fnTextWholeCard : Claim7 := { stood := { row := fnTextWholeRow, standIns := [], harness := (true, "2eb7771bfd0337a063139dcd564ca7f0cfc7da4935b91f63fe9e62a2be9b9525"), looks := false }, kinds := [], alts := [], laidByText := true, laidKinds := [.data, .data, .data, .data, .pinned, .pinned], laidTests := true, laidLooks := .later }
def FnTextWholeCardSaid : Prop := Claim7.holds Tryz.pinned (.plain (OpenSpec.ofChange fnTextWholeSpec)) fnTextWholeCard

/-- THE SECOND FORM's CARD OF 'laws.FnTextWhole'. -/
def fnTextWholeUptoCard : Claim7 := { stood := { row := fnTextWholeUptoRow, standIns := [], harness := (true, "2eb7771bfd0337a063139dcd564ca7f0cfc7da4935b91f63fe9e62a2be9b9525"), looks := false }, kinds := [], alts := [], laidByText := true, laidKinds := [.data, .data, .data, .data, .pinned, .pinned], laidTests := true, laidLooks := .later }
def FnTextWholeUptoCardSaid : Prop := Claim7.holds Tryz.pinned (.plain (OpenSpec.upto fnTextWholeSpec)) fnTextWholeUptoCard
end Rows
end Go.Proofs.YtkploaapcpjkbaaGreatDoor
