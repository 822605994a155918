/-
  DERIVED. GIVEN WITH THE SEED: THE CARDS: each row of YtkploaapcpjkbaaDoorRows.lean that lists a variable, with what it lists TIED to the program's text (the seventh form; the later family's looks); each row that meets fmt, with fmt's text TOLD by the authors' own Lean function (tested against real Go, not proved from fmt's source: count such statements apart). THE CARD IS WHAT COUNTS. Prove the row's statement (the work); the ties are given (YtkploaapcpjkbaaDoorTie.lean); close each card by the builder's one call (the guide's Derived/Test/ToyasCard.lean, 'card_holds'). Laid BY PROGRAM, IN A SANDBOX (cutbox-door.mjs). By AI agents, Wed Nov 11 2026. No macro, syntax, notation, axiom, sorry.
-/
import Derived.Test.YtkploaapcpjkbaaDoorRows
import GoSem.ClaimSeven
namespace Go.Proofs.YtkploaapcpjkbaaDoor
namespace Rows

/-- THE TIED CARD OF 'laws.FnOrderWhole'. -/
def fnOrderWholeCard : Claim7 := { stood := { row := fnOrderWholeRow, standIns := [], harness := (true, "0ad6df3bce55cb8edde850f11f815e38c9d0846f4f511cd1d24052499999eee9"), looks := false }, kinds := [], alts := [], laidByText := true, laidKinds := [.data, .data, .data], laidTests := true, laidLooks := .later }
def FnOrderWholeCardSaid : Prop := Claim7.holds Tryd.pinned (.plain (OpenSpec.ofChange fnOrderWholeSpec)) fnOrderWholeCard

/-- THE TIED CARD OF 'laws.FnExactQuad'. -/
def fnExactQuadCard : Claim7 := { stood := { row := fnExactQuadRow, standIns := [], harness := (true, "0ad6df3bce55cb8edde850f11f815e38c9d0846f4f511cd1d24052499999eee9"), looks := false }, kinds := [], alts := [], laidByText := true, laidKinds := [.data, .data, .data], laidTests := true, laidLooks := .later }
def FnExactQuadCardSaid : Prop := Claim7.holds Tryd.pinned (.plain (OpenSpec.ofChange fnExactQuadSpec)) fnExactQuadCard

/-- THE SECOND FORM's CARD OF 'laws.FnOrderWhole'. -/
def fnOrderWholeUptoCard : Claim7 := { stood := { row := fnOrderWholeUptoRow, standIns := [], harness := (true, "0ad6df3bce55cb8edde850f11f815e38c9d0846f4f511cd1d24052499999eee9"), looks := false }, kinds := [], alts := [], laidByText := true, laidKinds := [.data, .data, .data], laidTests := true, laidLooks := .later }
def FnOrderWholeUptoCardSaid : Prop := Claim7.holds Tryd.pinned (.plain (OpenSpec.upto fnOrderWholeSpec)) fnOrderWholeUptoCard

/-- THE SECOND FORM's CARD OF 'laws.FnExactQuad'. -/
def fnExactQuadUptoCard : Claim7 := { stood := { row := fnExactQuadUptoRow, standIns := [], harness := (true, "0ad6df3bce55cb8edde850f11f815e38c9d0846f4f511cd1d24052499999eee9"), looks := false }, kinds := [], alts := [], laidByText := true, laidKinds := [.data, .data, .data], laidTests := true, laidLooks := .later }
def FnExactQuadUptoCardSaid : Prop := Claim7.holds Tryd.pinned (.plain (OpenSpec.upto fnExactQuadSpec)) fnExactQuadUptoCard
end Rows
end Go.Proofs.YtkploaapcpjkbaaDoor
