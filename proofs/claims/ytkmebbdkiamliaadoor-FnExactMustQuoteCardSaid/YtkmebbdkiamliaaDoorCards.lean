/-
  DERIVED. GIVEN WITH THE SEED: THE CARDS: each row of YtkmebbdkiamliaaDoorRows.lean that lists a variable, with what it lists TIED to the program's text (the seventh form; the later family's looks); each row that meets fmt, with fmt's text TOLD by the authors' own Lean function (tested against real Go, not proved from fmt's source: count such statements apart). THE CARD IS WHAT COUNTS. Prove the row's statement (the work); the ties are given (YtkmebbdkiamliaaDoorTie.lean); close each card by the builder's one call (the guide's Derived/Test/ToyasCard.lean, 'card_holds'). Laid BY PROGRAM, IN A SANDBOX (cutbox-door.mjs). By AI agents, Wed Nov 11 2026. No macro, syntax, notation, axiom, sorry.
-/
import Derived.Test.YtkmebbdkiamliaaDoorRows
import GoSem.ClaimSeven
namespace Go.Proofs.YtkmebbdkiamliaaDoor
namespace Rows

/-- THE TIED CARD OF 'laws.FnExactAutoQuote'. -/
def fnExactAutoQuoteCard : Claim7 := { stood := { row := fnExactAutoQuoteRow, standIns := [], harness := (true, "7bdbf05362fc0c2527cb558b063b8fdc5db466886484bf538eb808463b14a1f7"), looks := false }, kinds := [], alts := [], laidByText := true, laidKinds := [.data, .data, .pinned, .pinned, .pinned, .pinned, .pinned, .pinned], laidTests := true, laidLooks := .later }
def FnExactAutoQuoteCardSaid : Prop := Claim7.holds Tryd.pinned (.plain (OpenSpec.ofChange fnExactAutoQuoteSpec)) fnExactAutoQuoteCard

/-- THE TIED CARD OF 'laws.FnExactMustQuote'. -/
def fnExactMustQuoteCard : Claim7 := { stood := { row := fnExactMustQuoteRow, standIns := [], harness := (true, "7bdbf05362fc0c2527cb558b063b8fdc5db466886484bf538eb808463b14a1f7"), looks := false }, kinds := [], alts := [], laidByText := true, laidKinds := [.data, .sentinel, .listed, .data, .data, .pinned], laidTests := true, laidLooks := .later }
def FnExactMustQuoteCardSaid : Prop := Claim7.holds Tryd.pinned (.plain (OpenSpec.ofChange fnExactMustQuoteSpec)) fnExactMustQuoteCard

/-- THE SECOND FORM's CARD OF 'laws.FnExactAutoQuote'. -/
def fnExactAutoQuoteUptoCard : Claim7 := { stood := { row := fnExactAutoQuoteUptoRow, standIns := [], harness := (true, "7bdbf05362fc0c2527cb558b063b8fdc5db466886484bf538eb808463b14a1f7"), looks := false }, kinds := [], alts := [], laidByText := true, laidKinds := [.data, .data, .pinned, .pinned, .pinned, .pinned, .pinned, .pinned], laidTests := true, laidLooks := .later }
def FnExactAutoQuoteUptoCardSaid : Prop := Claim7.holds Tryd.pinned (.plain (OpenSpec.upto fnExactAutoQuoteSpec)) fnExactAutoQuoteUptoCard

/-- THE SECOND FORM's CARD OF 'laws.FnExactMustQuote'. -/
def fnExactMustQuoteUptoCard : Claim7 := { stood := { row := fnExactMustQuoteUptoRow, standIns := [], harness := (true, "7bdbf05362fc0c2527cb558b063b8fdc5db466886484bf538eb808463b14a1f7"), looks := false }, kinds := [], alts := [], laidByText := true, laidKinds := [.data, .sentinel, .listed, .data, .data, .pinned], laidTests := true, laidLooks := .later }
def FnExactMustQuoteUptoCardSaid : Prop := Claim7.holds Tryd.pinned (.plain (OpenSpec.upto fnExactMustQuoteSpec)) fnExactMustQuoteUptoCard
end Rows
end Go.Proofs.YtkmebbdkiamliaaDoor
