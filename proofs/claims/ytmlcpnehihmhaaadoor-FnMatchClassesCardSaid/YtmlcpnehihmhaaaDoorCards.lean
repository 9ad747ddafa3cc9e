/-
  DERIVED. GIVEN WITH THE SEED: THE CARDS: each row of YtmlcpnehihmhaaaDoorRows.lean that lists a variable, with what it lists TIED to the program's text (the seventh form; the later family's looks); each row that meets fmt, with fmt's text TOLD by the authors' own Lean function (tested against real Go, not proved from fmt's source: count such statements apart). THE CARD IS WHAT COUNTS. Prove the row's statement (the work); the ties are given (YtmlcpnehihmhaaaDoorTie.lean); close each card by the builder's one call (the guide's Derived/Test/ToyasCard.lean, 'card_holds'). Laid BY PROGRAM, IN A SANDBOX (cutbox-door.mjs). By AI agents, Wed Nov 11 2026. No macro, syntax, notation, axiom, sorry.
-/
import Derived.Test.YtmlcpnehihmhaaaDoorRows
import GoSem.ClaimSeven
namespace Go.Proofs.YtmlcpnehihmhaaaDoor
namespace Rows

/-- THE TIED CARD OF 'laws.FnMatchClasses'. -/
def fnMatchClassesCard : Claim7 := { stood := { row := fnMatchClassesRow, standIns := [], harness := (true, "ce6cfe92ae5e55074b47644fd3dc35b28ee50ff9bb69ce8c80cf196225800d30"), looks := true }, kinds := [], alts := [], laidByText := true, laidKinds := [.data, .sentinel, .pinned], laidTests := true, laidLooks := .later }
def FnMatchClassesCardSaid : Prop := Claim7.holds Tryd.pinned (.plain (OpenSpec.ofChange fnMatchClassesSpec)) fnMatchClassesCard

/-- THE SECOND FORM's CARD OF 'laws.FnMatchClasses'. -/
def fnMatchClassesUptoCard : Claim7 := { stood := { row := fnMatchClassesUptoRow, standIns := [], harness := (true, "ce6cfe92ae5e55074b47644fd3dc35b28ee50ff9bb69ce8c80cf196225800d30"), looks := true }, kinds := [], alts := [], laidByText := true, laidKinds := [.data, .sentinel, .pinned], laidTests := true, laidLooks := .later }
def FnMatchClassesUptoCardSaid : Prop := Claim7.holds Tryd.pinned (.plain (OpenSpec.upto fnMatchClassesSpec)) fnMatchClassesUptoCard
end Rows
end Go.Proofs.YtmlcpnehihmhaaaDoor
