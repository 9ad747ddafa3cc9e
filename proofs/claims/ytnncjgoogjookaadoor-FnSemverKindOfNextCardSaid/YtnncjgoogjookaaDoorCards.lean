/-
  DERIVED. GIVEN WITH THE SEED: THE CARDS: each row of YtnncjgoogjookaaDoorRows.lean that lists a variable, with what it lists TIED to the program's text (the seventh form; the later family's looks); each row that meets fmt, with fmt's text TOLD by the authors' own Lean function (tested against real Go, not proved from fmt's source: count such statements apart). THE CARD IS WHAT COUNTS. Prove the row's statement (the work); the ties are given (YtnncjgoogjookaaDoorTie.lean); close each card by the builder's one call (the guide's Derived/Test/ToyasCard.lean, 'card_holds'). Laid BY PROGRAM, IN A SANDBOX (cutbox-door.mjs). By AI agents, Wed Nov 11 2026. No macro, syntax, notation, axiom, sorry.
-/
import Derived.Test.YtnncjgoogjookaaDoorRows
import GoSem.ClaimSeven
namespace Go.Proofs.YtnncjgoogjookaaDoor
namespace Rows

/-- THE TIED CARD OF 'laws.FnSemverKindOfNext'. -/
def fnSemverKindOfNextCard : Claim7 := { stood := { row := fnSemverKindOfNextRow, standIns := [], harness := (true, "ceb3d482cc498f979f41882b7f28b349d259bd3f5802f95cccffacf152350d47"), looks := true }, kinds := [], alts := [], laidByText := true, laidKinds := [.data, .data, .data, .sentinel, .sentinel, .sentinel, .sentinel, .sentinel, .sentinel, .sentinel, .sentinel, .sentinel, .sentinel, .sentinel], laidTests := true, laidLooks := .later }
def FnSemverKindOfNextCardSaid : Prop := Claim7.holds Tryd.pinned (.plain (OpenSpec.ofChange fnSemverKindOfNextSpec)) fnSemverKindOfNextCard

/-- THE SECOND FORM's CARD OF 'laws.FnSemverKindOfNext'. -/
def fnSemverKindOfNextUptoCard : Claim7 := { stood := { row := fnSemverKindOfNextUptoRow, standIns := [], harness := (true, "ceb3d482cc498f979f41882b7f28b349d259bd3f5802f95cccffacf152350d47"), looks := true }, kinds := [], alts := [], laidByText := true, laidKinds := [.data, .data, .data, .sentinel, .sentinel, .sentinel, .sentinel, .sentinel, .sentinel, .sentinel, .sentinel, .sentinel, .sentinel, .sentinel], laidTests := true, laidLooks := .later }
def FnSemverKindOfNextUptoCardSaid : Prop := Claim7.holds Tryd.pinned (.plain (OpenSpec.upto fnSemverKindOfNextSpec)) fnSemverKindOfNextUptoCard
end Rows
end Go.Proofs.YtnncjgoogjookaaDoor
