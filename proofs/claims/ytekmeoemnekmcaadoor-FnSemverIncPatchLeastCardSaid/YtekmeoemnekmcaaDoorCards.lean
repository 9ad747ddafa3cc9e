/-
  DERIVED. GIVEN WITH THE SEED: THE CARDS: each row of YtekmeoemnekmcaaDoorRows.lean that lists a variable, with what it lists TIED to the program's text (the seventh form; the later family's looks); each row that meets fmt, with fmt's text TOLD by the authors' own Lean function (tested against real Go, not proved from fmt's source: count such statements apart). THE CARD IS WHAT COUNTS. Prove the row's statement (the work); the ties are given (YtekmeoemnekmcaaDoorTie.lean); close each card by the builder's one call (the guide's Derived/Test/ToyasCard.lean, 'card_holds'). Laid BY PROGRAM, IN A SANDBOX (cutbox-door.mjs). By AI agents, Wed Nov 11 2026. No macro, syntax, notation, axiom, sorry.
-/
import Derived.Test.YtekmeoemnekmcaaDoorRows
import GoSem.ClaimSeven
namespace Go.Proofs.YtekmeoemnekmcaaDoor
namespace Rows

/-- THE TIED CARD OF 'laws.FnSemverValidMeta'. -/
def fnSemverValidMetaCard : Claim7 := { stood := { row := fnSemverValidMetaRow, standIns := [], harness := (true, "9c91768d0eb5864f96f24ceee6f7dc7b6975bd61a35717e3db59fc2ebb0335c7"), looks := true }, kinds := [], alts := [], laidByText := true, laidKinds := [.sentinel], laidTests := true, laidLooks := .later }
def FnSemverValidMetaCardSaid : Prop := Claim7.holds Tryd.pinned (.plain (OpenSpec.ofChange fnSemverValidMetaSpec)) fnSemverValidMetaCard

/-- THE TIED CARD OF 'laws.FnSemverValidZeros'. -/
def fnSemverValidZerosCard : Claim7 := { stood := { row := fnSemverValidZerosRow, standIns := [], harness := (true, "9c91768d0eb5864f96f24ceee6f7dc7b6975bd61a35717e3db59fc2ebb0335c7"), looks := true }, kinds := [], alts := [], laidByText := true, laidKinds := [.sentinel, .sentinel, .sentinel], laidTests := true, laidLooks := .later }
def FnSemverValidZerosCardSaid : Prop := Claim7.holds Tryd.pinned (.plain (OpenSpec.ofChange fnSemverValidZerosSpec)) fnSemverValidZerosCard

/-- THE TIED CARD OF 'laws.FnSemverPrintsApart'. -/
def fnSemverPrintsApartCard : Claim7 := { stood := { row := fnSemverPrintsApartRow, standIns := [], harness := (true, "9c91768d0eb5864f96f24ceee6f7dc7b6975bd61a35717e3db59fc2ebb0335c7"), looks := true }, kinds := [], alts := [], laidByText := true, laidKinds := [.data, .data, .data], laidTests := true, laidLooks := .later }
def FnSemverPrintsApartCardSaid : Prop := Claim7.holds Tryd.pinned (.plain (OpenSpec.ofChange fnSemverPrintsApartSpec)) fnSemverPrintsApartCard

/-- THE TIED CARD OF 'laws.FnSemverPartNumbers'. -/
def fnSemverPartNumbersCard : Claim7 := { stood := { row := fnSemverPartNumbersRow, standIns := [], harness := (true, "9c91768d0eb5864f96f24ceee6f7dc7b6975bd61a35717e3db59fc2ebb0335c7"), looks := true }, kinds := [], alts := [], laidByText := true, laidKinds := [.data, .data, .data, .sentinel, .sentinel], laidTests := true, laidLooks := .later }
def FnSemverPartNumbersCardSaid : Prop := Claim7.holds Tryd.pinned (.plain (OpenSpec.ofChange fnSemverPartNumbersSpec)) fnSemverPartNumbersCard

/-- THE TIED CARD OF 'laws.FnSemverReleaseAbove'. -/
def fnSemverReleaseAboveCard : Claim7 := { stood := { row := fnSemverReleaseAboveRow, standIns := [], harness := (true, "9c91768d0eb5864f96f24ceee6f7dc7b6975bd61a35717e3db59fc2ebb0335c7"), looks := true }, kinds := [], alts := [], laidByText := true, laidKinds := [.data, .data, .data, .sentinel, .sentinel], laidTests := true, laidLooks := .later }
def FnSemverReleaseAboveCardSaid : Prop := Claim7.holds Tryd.pinned (.plain (OpenSpec.ofChange fnSemverReleaseAboveSpec)) fnSemverReleaseAboveCard

/-- THE TIED CARD OF 'laws.FnSemverIncPatchLeast'. -/
def fnSemverIncPatchLeastCard : Claim7 := { stood := { row := fnSemverIncPatchLeastRow, standIns := [], harness := (true, "9c91768d0eb5864f96f24ceee6f7dc7b6975bd61a35717e3db59fc2ebb0335c7"), looks := true }, kinds := [], alts := [], laidByText := true, laidKinds := [.data, .data, .data, .sentinel, .sentinel], laidTests := true, laidLooks := .later }
def FnSemverIncPatchLeastCardSaid : Prop := Claim7.holds Tryd.pinned (.plain (OpenSpec.ofChange fnSemverIncPatchLeastSpec)) fnSemverIncPatchLeastCard

/-- THE TIED CARD OF 'laws.FnSemverKindOfNext'. -/
def fnSemverKindOfNextCard : Claim7 := { stood := { row := fnSemverKindOfNextRow, standIns := [], harness := (true, "9c91768d0eb5864f96f24ceee6f7dc7b6975bd61a35717e3db59fc2ebb0335c7"), looks := true }, kinds := [], alts := [], laidByText := true, laidKinds := [.data, .data, .data, .sentinel, .sentinel, .sentinel, .sentinel, .sentinel, .sentinel, .sentinel, .sentinel, .sentinel, .sentinel, .sentinel], laidTests := true, laidLooks := .later }
def FnSemverKindOfNextCardSaid : Prop := Claim7.holds Tryd.pinned (.plain (OpenSpec.ofChange fnSemverKindOfNextSpec)) fnSemverKindOfNextCard

/-- THE SECOND FORM's CARD OF 'laws.FnSemverValidMeta'. -/
def fnSemverValidMetaUptoCard : Claim7 := { stood := { row := fnSemverValidMetaUptoRow, standIns := [], harness := (true, "9c91768d0eb5864f96f24ceee6f7dc7b6975bd61a35717e3db59fc2ebb0335c7"), looks := true }, kinds := [], alts := [], laidByText := true, laidKinds := [.sentinel], laidTests := true, laidLooks := .later }
def FnSemverValidMetaUptoCardSaid : Prop := Claim7.holds Tryd.pinned (.plain (OpenSpec.upto fnSemverValidMetaSpec)) fnSemverValidMetaUptoCard

/-- THE SECOND FORM's CARD OF 'laws.FnSemverValidZeros'. -/
def fnSemverValidZerosUptoCard : Claim7 := { stood := { row := fnSemverValidZerosUptoRow, standIns := [], harness := (true, "9c91768d0eb5864f96f24ceee6f7dc7b6975bd61a35717e3db59fc2ebb0335c7"), looks := true }, kinds := [], alts := [], laidByText := true, laidKinds := [.sentinel, .sentinel, .sentinel], laidTests := true, laidLooks := .later }
def FnSemverValidZerosUptoCardSaid : Prop := Claim7.holds Tryd.pinned (.plain (OpenSpec.upto fnSemverValidZerosSpec)) fnSemverValidZerosUptoCard

/-- THE SECOND FORM's CARD OF 'laws.FnSemverPrintsApart'. -/
def fnSemverPrintsApartUptoCard : Claim7 := { stood := { row := fnSemverPrintsApartUptoRow, standIns := [], harness := (true, "9c91768d0eb5864f96f24ceee6f7dc7b6975bd61a35717e3db59fc2ebb0335c7"), looks := true }, kinds := [], alts := [], laidByText := true, laidKinds := [.data, .data, .data], laidTests := true, laidLooks := .later }
def FnSemverPrintsApartUptoCardSaid : Prop := Claim7.holds Tryd.pinned (.plain (OpenSpec.upto fnSemverPrintsApartSpec)) fnSemverPrintsApartUptoCard

/-- THE SECOND FORM's CARD OF 'laws.FnSemverPartNumbers'. -/
def fnSemverPartNumbersUptoCard : Claim7 := { stood := { row := fnSemverPartNumbersUptoRow, standIns := [], harness := (true, "9c91768d0eb5864f96f24ceee6f7dc7b6975bd61a35717e3db59fc2ebb0335c7"), looks := true }, kinds := [], alts := [], laidByText := true, laidKinds := [.data, .data, .data, .sentinel, .sentinel], laidTests := true, laidLooks := .later }
def FnSemverPartNumbersUptoCardSaid : Prop := Claim7.holds Tryd.pinned (.plain (OpenSpec.upto fnSemverPartNumbersSpec)) fnSemverPartNumbersUptoCard

/-- THE SECOND FORM's CARD OF 'laws.FnSemverReleaseAbove'. -/
def fnSemverReleaseAboveUptoCard : Claim7 := { stood := { row := fnSemverReleaseAboveUptoRow, standIns := [], harness := (true, "9c91768d0eb5864f96f24ceee6f7dc7b6975bd61a35717e3db59fc2ebb0335c7"), looks := true }, kinds := [], alts := [], laidByText := true, laidKinds := [.data, .data, .data, .sentinel, .sentinel], laidTests := true, laidLooks := .later }
def FnSemverReleaseAboveUptoCardSaid : Prop := Claim7.holds Tryd.pinned (.plain (OpenSpec.upto fnSemverReleaseAboveSpec)) fnSemverReleaseAboveUptoCard

/-- THE SECOND FORM's CARD OF 'laws.FnSemverIncPatchLeast'. -/
def fnSemverIncPatchLeastUptoCard : Claim7 := { stood := { row := fnSemverIncPatchLeastUptoRow, standIns := [], harness := (true, "9c91768d0eb5864f96f24ceee6f7dc7b6975bd61a35717e3db59fc2ebb0335c7"), looks := true }, kinds := [], alts := [], laidByText := true, laidKinds := [.data, .data, .data, .sentinel, .sentinel], laidTests := true, laidLooks := .later }
def FnSemverIncPatchLeastUptoCardSaid : Prop := Claim7.holds Tryd.pinned (.plain (OpenSpec.upto fnSemverIncPatchLeastSpec)) fnSemverIncPatchLeastUptoCard

/-- THE SECOND FORM's CARD OF 'laws.FnSemverKindOfNext'. -/
def fnSemverKindOfNextUptoCard : Claim7 := { stood := { row := fnSemverKindOfNextUptoRow, standIns := [], harness := (true, "9c91768d0eb5864f96f24ceee6f7dc7b6975bd61a35717e3db59fc2ebb0335c7"), looks := true }, kinds := [], alts := [], laidByText := true, laidKinds := [.data, .data, .data, .sentinel, .sentinel, .sentinel, .sentinel, .sentinel, .sentinel, .sentinel, .sentinel, .sentinel, .sentinel, .sentinel], laidTests := true, laidLooks := .later }
def FnSemverKindOfNextUptoCardSaid : Prop := Claim7.holds Tryd.pinned (.plain (OpenSpec.upto fnSemverKindOfNextSpec)) fnSemverKindOfNextUptoCard
end Rows
end Go.Proofs.YtekmeoemnekmcaaDoor
