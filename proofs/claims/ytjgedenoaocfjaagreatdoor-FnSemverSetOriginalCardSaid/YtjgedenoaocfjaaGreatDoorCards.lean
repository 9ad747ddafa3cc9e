/-
  DERIVED. GIVEN WITH THE SEED: THE CARDS: each row of YtjgedenoaocfjaaGreatDoorRows.lean that lists a variable, with what it lists TIED to the program's text (the seventh form; the later family's looks); each row that meets fmt, with fmt's text TOLD by the authors' own Lean function (tested against real Go, not proved from fmt's source: count such statements apart). THE CARD IS WHAT COUNTS. Prove the row's statement (the work); the ties are given (YtjgedenoaocfjaaGreatDoorTie.lean); close each card by the builder's one call (the guide's Derived/Test/ToyasCard.lean, 'card_holds'). Laid BY PROGRAM, IN A SANDBOX (cutbox-door.mjs). By AI agents, Wed Nov 11 2026. No macro, syntax, notation, axiom, sorry.
-/
import Derived.Test.YtjgedenoaocfjaaGreatDoorRows
import GoSem.ClaimSeven
namespace Go.Proofs.YtjgedenoaocfjaaGreatDoor
namespace Rows

/-- THE TIED CARD OF 'laws.FnSemverParseTerm'. -/
def fnSemverParseTermCard : Claim7 := { stood := { row := fnSemverParseTermRow, standIns := [], harness := (true, "31b9b6ec6a4ec19a278927d15283dbb3ac6b3efd5c641b711ad7431a2256757f"), looks := true }, kinds := [], alts := [], laidByText := true, laidKinds := [.data, .data, .data, .sentinel, .sentinel, .sentinel, .sentinel, .sentinel, .sentinel, .sentinel, .sentinel, .sentinel], laidTests := true, laidLooks := .later }
def FnSemverParseTermCardSaid : Prop := Claim7.holds Tryz.pinned (.plain (OpenSpec.ofChange fnSemverParseTermSpec)) fnSemverParseTermCard

/-- THE TIED CARD OF 'laws.FnSemverLooseStrict'. -/
def fnSemverLooseStrictCard : Claim7 := { stood := { row := fnSemverLooseStrictRow, standIns := [], harness := (true, "31b9b6ec6a4ec19a278927d15283dbb3ac6b3efd5c641b711ad7431a2256757f"), looks := true }, kinds := [], alts := [], laidByText := true, laidKinds := [.data, .data, .data, .sentinel, .sentinel, .sentinel, .sentinel, .sentinel, .sentinel, .sentinel, .sentinel, .sentinel], laidTests := true, laidLooks := .later }
def FnSemverLooseStrictCardSaid : Prop := Claim7.holds Tryz.pinned (.plain (OpenSpec.ofChange fnSemverLooseStrictSpec)) fnSemverLooseStrictCard

/-- THE TIED CARD OF 'laws.FnSemverSetOriginal'. -/
def fnSemverSetOriginalCard : Claim7 := { stood := { row := fnSemverSetOriginalRow, standIns := [], harness := (true, "31b9b6ec6a4ec19a278927d15283dbb3ac6b3efd5c641b711ad7431a2256757f"), looks := true }, kinds := [], alts := [], laidByText := true, laidKinds := [.data, .data, .data, .sentinel, .sentinel, .sentinel, .sentinel, .sentinel, .sentinel, .sentinel], laidTests := true, laidLooks := .later }
def FnSemverSetOriginalCardSaid : Prop := Claim7.holds Tryz.pinned (.plain (OpenSpec.ofChange fnSemverSetOriginalSpec)) fnSemverSetOriginalCard

/-- THE SECOND FORM's CARD OF 'laws.FnSemverParseTerm'. -/
def fnSemverParseTermUptoCard : Claim7 := { stood := { row := fnSemverParseTermUptoRow, standIns := [], harness := (true, "31b9b6ec6a4ec19a278927d15283dbb3ac6b3efd5c641b711ad7431a2256757f"), looks := true }, kinds := [], alts := [], laidByText := true, laidKinds := [.data, .data, .data, .sentinel, .sentinel, .sentinel, .sentinel, .sentinel, .sentinel, .sentinel, .sentinel, .sentinel], laidTests := true, laidLooks := .later }
def FnSemverParseTermUptoCardSaid : Prop := Claim7.holds Tryz.pinned (.plain (OpenSpec.upto fnSemverParseTermSpec)) fnSemverParseTermUptoCard

/-- THE SECOND FORM's CARD OF 'laws.FnSemverLooseStrict'. -/
def fnSemverLooseStrictUptoCard : Claim7 := { stood := { row := fnSemverLooseStrictUptoRow, standIns := [], harness := (true, "31b9b6ec6a4ec19a278927d15283dbb3ac6b3efd5c641b711ad7431a2256757f"), looks := true }, kinds := [], alts := [], laidByText := true, laidKinds := [.data, .data, .data, .sentinel, .sentinel, .sentinel, .sentinel, .sentinel, .sentinel, .sentinel, .sentinel, .sentinel], laidTests := true, laidLooks := .later }
def FnSemverLooseStrictUptoCardSaid : Prop := Claim7.holds Tryz.pinned (.plain (OpenSpec.upto fnSemverLooseStrictSpec)) fnSemverLooseStrictUptoCard

/-- THE SECOND FORM's CARD OF 'laws.FnSemverSetOriginal'. -/
def fnSemverSetOriginalUptoCard : Claim7 := { stood := { row := fnSemverSetOriginalUptoRow, standIns := [], harness := (true, "31b9b6ec6a4ec19a278927d15283dbb3ac6b3efd5c641b711ad7431a2256757f"), looks := true }, kinds := [], alts := [], laidByText := true, laidKinds := [.data, .data, .data, .sentinel, .sentinel, .sentinel, .sentinel, .sentinel, .sentinel, .sentinel], laidTests := true, laidLooks := .later }
def FnSemverSetOriginalUptoCardSaid : Prop := Claim7.holds Tryz.pinned (.plain (OpenSpec.upto fnSemverSetOriginalSpec)) fnSemverSetOriginalUptoCard
end Rows
end Go.Proofs.YtjgedenoaocfjaaGreatDoor
