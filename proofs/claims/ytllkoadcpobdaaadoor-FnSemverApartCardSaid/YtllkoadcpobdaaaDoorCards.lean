/-
  DERIVED. GIVEN WITH THE SEED: THE CARDS: each row of YtllkoadcpobdaaaDoorRows.lean that lists a variable, with what it lists TIED to the program's text (the seventh form; the later family's looks); each row that meets fmt, with fmt's text TOLD by the authors' own Lean function (tested against real Go, not proved from fmt's source: count such statements apart). THE CARD IS WHAT COUNTS. Prove the row's statement (the work); the ties are given (YtllkoadcpobdaaaDoorTie.lean); close each card by the builder's one call (the guide's Derived/Test/ToyasCard.lean, 'card_holds'). Laid BY PROGRAM, IN A SANDBOX (cutbox-door.mjs). By AI agents, Wed Nov 11 2026. No macro, syntax, notation, axiom, sorry.
-/
import Derived.Test.YtllkoadcpobdaaaDoorRows
import GoSem.ClaimSeven
namespace Go.Proofs.YtllkoadcpobdaaaDoor
namespace Rows

/-- THE TIED CARD OF 'laws.FnSemverTermHolds'. -/
def fnSemverTermHoldsCard : Claim7 := { stood := { row := fnSemverTermHoldsRow, standIns := [], harness := (true, "9cd4d0472ab03c3f76172d5226c03bd227d8abce0e473bf358dff12629b1001f"), looks := true }, kinds := [], alts := [], laidByText := true, laidKinds := [.data, .data, .data, .sentinel, .sentinel], laidTests := true, laidLooks := .later }
def FnSemverTermHoldsCardSaid : Prop := Claim7.holds Tryd.pinned (.plain (OpenSpec.ofChange fnSemverTermHoldsSpec)) fnSemverTermHoldsCard

/-- THE TIED CARD OF 'laws.FnSemverTermTilde'. -/
def fnSemverTermTildeCard : Claim7 := { stood := { row := fnSemverTermTildeRow, standIns := [], harness := (true, "9cd4d0472ab03c3f76172d5226c03bd227d8abce0e473bf358dff12629b1001f"), looks := true }, kinds := [], alts := [], laidByText := true, laidKinds := [.data, .data, .data, .sentinel, .sentinel], laidTests := true, laidLooks := .later }
def FnSemverTermTildeCardSaid : Prop := Claim7.holds Tryd.pinned (.plain (OpenSpec.ofChange fnSemverTermTildeSpec)) fnSemverTermTildeCard

/-- THE TIED CARD OF 'laws.FnSemverTildeInterval'. -/
def fnSemverTildeIntervalCard : Claim7 := { stood := { row := fnSemverTildeIntervalRow, standIns := [], harness := (true, "9cd4d0472ab03c3f76172d5226c03bd227d8abce0e473bf358dff12629b1001f"), looks := true }, kinds := [], alts := [], laidByText := true, laidKinds := [.data, .data, .data, .sentinel, .sentinel], laidTests := true, laidLooks := .later }
def FnSemverTildeIntervalCardSaid : Prop := Claim7.holds Tryd.pinned (.plain (OpenSpec.ofChange fnSemverTildeIntervalSpec)) fnSemverTildeIntervalCard

/-- THE TIED CARD OF 'laws.FnSemverNotEqualHolds'. -/
def fnSemverNotEqualHoldsCard : Claim7 := { stood := { row := fnSemverNotEqualHoldsRow, standIns := [], harness := (true, "9cd4d0472ab03c3f76172d5226c03bd227d8abce0e473bf358dff12629b1001f"), looks := true }, kinds := [], alts := [], laidByText := true, laidKinds := [.data, .data, .data, .sentinel, .sentinel], laidTests := true, laidLooks := .later }
def FnSemverNotEqualHoldsCardSaid : Prop := Claim7.holds Tryd.pinned (.plain (OpenSpec.ofChange fnSemverNotEqualHoldsSpec)) fnSemverNotEqualHoldsCard

/-- THE TIED CARD OF 'laws.FnSemverEqualCompares'. -/
def fnSemverEqualComparesCard : Claim7 := { stood := { row := fnSemverEqualComparesRow, standIns := [], harness := (true, "9cd4d0472ab03c3f76172d5226c03bd227d8abce0e473bf358dff12629b1001f"), looks := true }, kinds := [], alts := [], laidByText := true, laidKinds := [.data, .data, .data, .sentinel, .sentinel], laidTests := true, laidLooks := .later }
def FnSemverEqualComparesCardSaid : Prop := Claim7.holds Tryd.pinned (.plain (OpenSpec.ofChange fnSemverEqualComparesSpec)) fnSemverEqualComparesCard

/-- THE TIED CARD OF 'laws.FnSemverTermsNamed'. -/
def fnSemverTermsNamedCard : Claim7 := { stood := { row := fnSemverTermsNamedRow, standIns := [], harness := (true, "9cd4d0472ab03c3f76172d5226c03bd227d8abce0e473bf358dff12629b1001f"), looks := true }, kinds := [], alts := [], laidByText := true, laidKinds := [.data, .data, .data, .sentinel, .sentinel], laidTests := true, laidLooks := .later }
def FnSemverTermsNamedCardSaid : Prop := Claim7.holds Tryd.pinned (.plain (OpenSpec.ofChange fnSemverTermsNamedSpec)) fnSemverTermsNamedCard

/-- THE TIED CARD OF 'laws.FnSemverTermFromZero'. -/
def fnSemverTermFromZeroCard : Claim7 := { stood := { row := fnSemverTermFromZeroRow, standIns := [], harness := (true, "9cd4d0472ab03c3f76172d5226c03bd227d8abce0e473bf358dff12629b1001f"), looks := true }, kinds := [], alts := [], laidByText := true, laidKinds := [.data, .data, .data, .sentinel, .sentinel], laidTests := true, laidLooks := .later }
def FnSemverTermFromZeroCardSaid : Prop := Claim7.holds Tryd.pinned (.plain (OpenSpec.ofChange fnSemverTermFromZeroSpec)) fnSemverTermFromZeroCard

/-- THE TIED CARD OF 'laws.FnSemverTermsOne'. -/
def fnSemverTermsOneCard : Claim7 := { stood := { row := fnSemverTermsOneRow, standIns := [], harness := (true, "9cd4d0472ab03c3f76172d5226c03bd227d8abce0e473bf358dff12629b1001f"), looks := true }, kinds := [], alts := [], laidByText := true, laidKinds := [.data, .data, .data, .sentinel, .sentinel], laidTests := true, laidLooks := .later }
def FnSemverTermsOneCardSaid : Prop := Claim7.holds Tryd.pinned (.plain (OpenSpec.ofChange fnSemverTermsOneSpec)) fnSemverTermsOneCard

/-- THE TIED CARD OF 'laws.FnSemverApart'. -/
def fnSemverApartCard : Claim7 := { stood := { row := fnSemverApartRow, standIns := [], harness := (true, "9cd4d0472ab03c3f76172d5226c03bd227d8abce0e473bf358dff12629b1001f"), looks := true }, kinds := [], alts := [], laidByText := true, laidKinds := [.data, .data, .data, .sentinel, .sentinel], laidTests := true, laidLooks := .later }
def FnSemverApartCardSaid : Prop := Claim7.holds Tryd.pinned (.plain (OpenSpec.ofChange fnSemverApartSpec)) fnSemverApartCard

/-- THE TIED CARD OF 'laws.FnSemverSortedRank'. -/
def fnSemverSortedRankCard : Claim7 := { stood := { row := fnSemverSortedRankRow, standIns := [], harness := (true, "9cd4d0472ab03c3f76172d5226c03bd227d8abce0e473bf358dff12629b1001f"), looks := true }, kinds := [], alts := [], laidByText := true, laidKinds := [.data, .data, .data, .sentinel, .sentinel], laidTests := true, laidLooks := .later }
def FnSemverSortedRankCardSaid : Prop := Claim7.holds Tryd.pinned (.plain (OpenSpec.ofChange fnSemverSortedRankSpec)) fnSemverSortedRankCard

/-- THE SECOND FORM's CARD OF 'laws.FnSemverTermHolds'. -/
def fnSemverTermHoldsUptoCard : Claim7 := { stood := { row := fnSemverTermHoldsUptoRow, standIns := [], harness := (true, "9cd4d0472ab03c3f76172d5226c03bd227d8abce0e473bf358dff12629b1001f"), looks := true }, kinds := [], alts := [], laidByText := true, laidKinds := [.data, .data, .data, .sentinel, .sentinel], laidTests := true, laidLooks := .later }
def FnSemverTermHoldsUptoCardSaid : Prop := Claim7.holds Tryd.pinned (.plain (OpenSpec.upto fnSemverTermHoldsSpec)) fnSemverTermHoldsUptoCard

/-- THE SECOND FORM's CARD OF 'laws.FnSemverTermTilde'. -/
def fnSemverTermTildeUptoCard : Claim7 := { stood := { row := fnSemverTermTildeUptoRow, standIns := [], harness := (true, "9cd4d0472ab03c3f76172d5226c03bd227d8abce0e473bf358dff12629b1001f"), looks := true }, kinds := [], alts := [], laidByText := true, laidKinds := [.data, .data, .data, .sentinel, .sentinel], laidTests := true, laidLooks := .later }
def FnSemverTermTildeUptoCardSaid : Prop := Claim7.holds Tryd.pinned (.plain (OpenSpec.upto fnSemverTermTildeSpec)) fnSemverTermTildeUptoCard

/-- THE SECOND FORM's CARD OF 'laws.FnSemverTildeInterval'. -/
def fnSemverTildeIntervalUptoCard : Claim7 := { stood := { row := fnSemverTildeIntervalUptoRow, standIns := [], harness := (true, "9cd4d0472ab03c3f76172d5226c03bd227d8abce0e473bf358dff12629b1001f"), looks := true }, kinds := [], alts := [], laidByText := true, laidKinds := [.data, .data, .data, .sentinel, .sentinel], laidTests := true, laidLooks := .later }
def FnSemverTildeIntervalUptoCardSaid : Prop := Claim7.holds Tryd.pinned (.plain (OpenSpec.upto fnSemverTildeIntervalSpec)) fnSemverTildeIntervalUptoCard

/-- THE SECOND FORM's CARD OF 'laws.FnSemverNotEqualHolds'. -/
def fnSemverNotEqualHoldsUptoCard : Claim7 := { stood := { row := fnSemverNotEqualHoldsUptoRow, standIns := [], harness := (true, "9cd4d0472ab03c3f76172d5226c03bd227d8abce0e473bf358dff12629b1001f"), looks := true }, kinds := [], alts := [], laidByText := true, laidKinds := [.data, .data, .data, .sentinel, .sentinel], laidTests := true, laidLooks := .later }
def FnSemverNotEqualHoldsUptoCardSaid : Prop := Claim7.holds Tryd.pinned (.plain (OpenSpec.upto fnSemverNotEqualHoldsSpec)) fnSemverNotEqualHoldsUptoCard

/-- THE SECOND FORM's CARD OF 'laws.FnSemverEqualCompares'. -/
def fnSemverEqualComparesUptoCard : Claim7 := { stood := { row := fnSemverEqualComparesUptoRow, standIns := [], harness := (true, "9cd4d0472ab03c3f76172d5226c03bd227d8abce0e473bf358dff12629b1001f"), looks := true }, kinds := [], alts := [], laidByText := true, laidKinds := [.data, .data, .data, .sentinel, .sentinel], laidTests := true, laidLooks := .later }
def FnSemverEqualComparesUptoCardSaid : Prop := Claim7.holds Tryd.pinned (.plain (OpenSpec.upto fnSemverEqualComparesSpec)) fnSemverEqualComparesUptoCard

/-- THE SECOND FORM's CARD OF 'laws.FnSemverTermsNamed'. -/
def fnSemverTermsNamedUptoCard : Claim7 := { stood := { row := fnSemverTermsNamedUptoRow, standIns := [], harness := (true, "9cd4d0472ab03c3f76172d5226c03bd227d8abce0e473bf358dff12629b1001f"), looks := true }, kinds := [], alts := [], laidByText := true, laidKinds := [.data, .data, .data, .sentinel, .sentinel], laidTests := true, laidLooks := .later }
def FnSemverTermsNamedUptoCardSaid : Prop := Claim7.holds Tryd.pinned (.plain (OpenSpec.upto fnSemverTermsNamedSpec)) fnSemverTermsNamedUptoCard

/-- THE SECOND FORM's CARD OF 'laws.FnSemverTermFromZero'. -/
def fnSemverTermFromZeroUptoCard : Claim7 := { stood := { row := fnSemverTermFromZeroUptoRow, standIns := [], harness := (true, "9cd4d0472ab03c3f76172d5226c03bd227d8abce0e473bf358dff12629b1001f"), looks := true }, kinds := [], alts := [], laidByText := true, laidKinds := [.data, .data, .data, .sentinel, .sentinel], laidTests := true, laidLooks := .later }
def FnSemverTermFromZeroUptoCardSaid : Prop := Claim7.holds Tryd.pinned (.plain (OpenSpec.upto fnSemverTermFromZeroSpec)) fnSemverTermFromZeroUptoCard

/-- THE SECOND FORM's CARD OF 'laws.FnSemverTermsOne'. -/
def fnSemverTermsOneUptoCard : Claim7 := { stood := { row := fnSemverTermsOneUptoRow, standIns := [], harness := (true, "9cd4d0472ab03c3f76172d5226c03bd227d8abce0e473bf358dff12629b1001f"), looks := true }, kinds := [], alts := [], laidByText := true, laidKinds := [.data, .data, .data, .sentinel, .sentinel], laidTests := true, laidLooks := .later }
def FnSemverTermsOneUptoCardSaid : Prop := Claim7.holds Tryd.pinned (.plain (OpenSpec.upto fnSemverTermsOneSpec)) fnSemverTermsOneUptoCard

/-- THE SECOND FORM's CARD OF 'laws.FnSemverApart'. -/
def fnSemverApartUptoCard : Claim7 := { stood := { row := fnSemverApartUptoRow, standIns := [], harness := (true, "9cd4d0472ab03c3f76172d5226c03bd227d8abce0e473bf358dff12629b1001f"), looks := true }, kinds := [], alts := [], laidByText := true, laidKinds := [.data, .data, .data, .sentinel, .sentinel], laidTests := true, laidLooks := .later }
def FnSemverApartUptoCardSaid : Prop := Claim7.holds Tryd.pinned (.plain (OpenSpec.upto fnSemverApartSpec)) fnSemverApartUptoCard

/-- THE SECOND FORM's CARD OF 'laws.FnSemverSortedRank'. -/
def fnSemverSortedRankUptoCard : Claim7 := { stood := { row := fnSemverSortedRankUptoRow, standIns := [], harness := (true, "9cd4d0472ab03c3f76172d5226c03bd227d8abce0e473bf358dff12629b1001f"), looks := true }, kinds := [], alts := [], laidByText := true, laidKinds := [.data, .data, .data, .sentinel, .sentinel], laidTests := true, laidLooks := .later }
def FnSemverSortedRankUptoCardSaid : Prop := Claim7.holds Tryd.pinned (.plain (OpenSpec.upto fnSemverSortedRankSpec)) fnSemverSortedRankUptoCard
end Rows
end Go.Proofs.YtllkoadcpobdaaaDoor
