/-
  DERIVED. GIVEN WITH THE SEED: THE CARDS: each row of YtlnmchehnhgfnaaDoorRows.lean that lists a variable, with what it lists TIED to the program's text (the seventh form; the later family's looks); each row that meets fmt, with fmt's text TOLD by the authors' own Lean function (tested against real Go, not proved from fmt's source: count such statements apart). THE CARD IS WHAT COUNTS. Prove the row's statement (the work); the ties are given (YtlnmchehnhgfnaaDoorTie.lean); close each card by the builder's one call (the guide's Derived/Test/ToyasCard.lean, 'card_holds'). Laid BY PROGRAM, IN A SANDBOX (cutbox-door.mjs). By AI agents, Wed Nov 11 2026. No macro, syntax, notation, axiom, sorry.
-/
import Derived.Test.YtlnmchehnhgfnaaDoorRows
import GoSem.ClaimSeven
namespace Go.Proofs.YtlnmchehnhgfnaaDoor
namespace Rows

/-- THE TIED CARD OF 'laws.FnExactModulePath'. -/
def fnExactModulePathCard : Claim7 := { stood := { row := fnExactModulePathRow, standIns := [], harness := (true, "4fcd12a8a52cf16050a5045a49dc9138cc58ef1527858e6ee1cacf5f7830bde9"), looks := false }, kinds := [], alts := [], laidByText := true, laidKinds := [.data, .sentinel, .listed, .data, .pinned], laidTests := true, laidLooks := .later }
def FnExactModulePathCardSaid : Prop := Claim7.holds Tryd.pinned (.plain (OpenSpec.ofChange fnExactModulePathSpec)) fnExactModulePathCard

/-- THE TIED CARD OF 'laws.FnModulePathBehind'. -/
def fnModulePathBehindCard : Claim7 := { stood := { row := fnModulePathBehindRow, standIns := [], harness := (true, "4fcd12a8a52cf16050a5045a49dc9138cc58ef1527858e6ee1cacf5f7830bde9"), looks := false }, kinds := [], alts := [], laidByText := true, laidKinds := [.data, .sentinel, .listed, .data, .pinned], laidTests := true, laidLooks := .later }
def FnModulePathBehindCardSaid : Prop := Claim7.holds Tryd.pinned (.plain (OpenSpec.ofChange fnModulePathBehindSpec)) fnModulePathBehindCard

/-- THE TIED CARD OF 'laws.FnModulePathText'. -/
def fnModulePathTextCard : Claim7 := { stood := { row := fnModulePathTextRow, standIns := [], harness := (true, "4fcd12a8a52cf16050a5045a49dc9138cc58ef1527858e6ee1cacf5f7830bde9"), looks := false }, kinds := [], alts := [], laidByText := true, laidKinds := [.data, .sentinel, .listed, .data, .pinned], laidTests := true, laidLooks := .later }
def FnModulePathTextCardSaid : Prop := Claim7.holds Tryd.pinned (.plain (OpenSpec.ofChange fnModulePathTextSpec)) fnModulePathTextCard

/-- THE SECOND FORM's CARD OF 'laws.FnExactModulePath'. -/
def fnExactModulePathUptoCard : Claim7 := { stood := { row := fnExactModulePathUptoRow, standIns := [], harness := (true, "4fcd12a8a52cf16050a5045a49dc9138cc58ef1527858e6ee1cacf5f7830bde9"), looks := false }, kinds := [], alts := [], laidByText := true, laidKinds := [.data, .sentinel, .listed, .data, .pinned], laidTests := true, laidLooks := .later }
def FnExactModulePathUptoCardSaid : Prop := Claim7.holds Tryd.pinned (.plain (OpenSpec.upto fnExactModulePathSpec)) fnExactModulePathUptoCard

/-- THE SECOND FORM's CARD OF 'laws.FnModulePathBehind'. -/
def fnModulePathBehindUptoCard : Claim7 := { stood := { row := fnModulePathBehindUptoRow, standIns := [], harness := (true, "4fcd12a8a52cf16050a5045a49dc9138cc58ef1527858e6ee1cacf5f7830bde9"), looks := false }, kinds := [], alts := [], laidByText := true, laidKinds := [.data, .sentinel, .listed, .data, .pinned], laidTests := true, laidLooks := .later }
def FnModulePathBehindUptoCardSaid : Prop := Claim7.holds Tryd.pinned (.plain (OpenSpec.upto fnModulePathBehindSpec)) fnModulePathBehindUptoCard

/-- THE SECOND FORM's CARD OF 'laws.FnModulePathText'. -/
def fnModulePathTextUptoCard : Claim7 := { stood := { row := fnModulePathTextUptoRow, standIns := [], harness := (true, "4fcd12a8a52cf16050a5045a49dc9138cc58ef1527858e6ee1cacf5f7830bde9"), looks := false }, kinds := [], alts := [], laidByText := true, laidKinds := [.data, .sentinel, .listed, .data, .pinned], laidTests := true, laidLooks := .later }
def FnModulePathTextUptoCardSaid : Prop := Claim7.holds Tryd.pinned (.plain (OpenSpec.upto fnModulePathTextSpec)) fnModulePathTextUptoCard
end Rows
end Go.Proofs.YtlnmchehnhgfnaaDoor
