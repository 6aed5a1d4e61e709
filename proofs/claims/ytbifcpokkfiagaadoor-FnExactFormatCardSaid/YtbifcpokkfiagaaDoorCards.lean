/-
  DERIVED. GIVEN WITH THE SEED: THE CARDS: each row of YtbifcpokkfiagaaDoorRows.lean that lists a variable, with what it lists TIED to the program's text (the seventh form; the later family's looks); each row that meets fmt, with fmt's text TOLD by the authors' own Lean function (tested against real Go, not proved from fmt's source: count such statements apart). THE CARD IS WHAT COUNTS. Prove the row's statement (the work); the ties are given (YtbifcpokkfiagaaDoorTie.lean); close each card by the builder's one call (the guide's Derived/Test/ToyasCard.lean, 'card_holds'). Laid BY PROGRAM, IN A SANDBOX (cutbox-door.mjs). By AI agents, Wed Nov 11 2026. No macro, syntax, notation, axiom, sorry.
-/
import Derived.Test.YtbifcpokkfiagaaDoorRows
import GoSem.ClaimSeven
namespace Go.Proofs.YtbifcpokkfiagaaDoor
namespace Rows

/-- THE TIED CARD OF 'laws.FnExactFormat'. -/
def fnExactFormatCard : Claim7 := { stood := { row := fnExactFormatRow, standIns := [], harness := (true, "b48ac4e221476e4f5cb1164c57f08117ad2bb6e6c123e252d1b6bbcab99fa7ac"), looks := true }, kinds := [], alts := [], laidByText := true, laidKinds := [.data, .listed, .sentinel, .data, .pinned], laidTests := true, laidLooks := .later }
def FnExactFormatCardSaid : Prop := Claim7.holds Tryd.pinned (.plain (OpenSpec.ofChange fnExactFormatSpec)) fnExactFormatCard

/-- THE SECOND FORM's CARD OF 'laws.FnExactFormat'. -/
def fnExactFormatUptoCard : Claim7 := { stood := { row := fnExactFormatUptoRow, standIns := [], harness := (true, "b48ac4e221476e4f5cb1164c57f08117ad2bb6e6c123e252d1b6bbcab99fa7ac"), looks := true }, kinds := [], alts := [], laidByText := true, laidKinds := [.data, .listed, .sentinel, .data, .pinned], laidTests := true, laidLooks := .later }
def FnExactFormatUptoCardSaid : Prop := Claim7.holds Tryd.pinned (.plain (OpenSpec.upto fnExactFormatSpec)) fnExactFormatUptoCard
end Rows
end Go.Proofs.YtbifcpokkfiagaaDoor
