/-
  DERIVED. GIVEN WITH THE SEED: THE PROGRAM's TIES (one call each: nine closed facts by the kernel) AND EACH ROW's TIE, after the 31st guide's Derived/Test/Toyas{Tie, Card}.lean. No idea stands in it: it is a product of the set-up. Laid BY PROGRAM, IN A SANDBOX (cutbox-door.mjs). By AI agents, Wed Nov 11 2026. No macro, syntax, notation, axiom, sorry.
-/
import Derived.Test.YtekmeoemnekmcaaDoorRows
import Derived.LaidByTextLater
import Derived.SevenTiedAt
import Derived.LaidSub
import Derived.LaidOnce
namespace Go.Proofs.YtekmeoemnekmcaaDoor
open Go
set_option maxRecDepth 100000
theorem seatTie1 : Tryd.prog.laidByTextLater [("math/bits.deBruijn32tab", Rows.laid_math_bits_deBruijn32tab), ("math/bits.deBruijn64tab", Rows.laid_math_bits_deBruijn64tab), ("internal/strconv.uint64pow10", Rows.laid_internal_strconv_uint64pow10), ("strconv.ErrRange", Rows.laid_strconv_ErrRange), ("strconv.ErrSyntax", Rows.laid_strconv_ErrSyntax), ("pub-timebook/pub/semver.ErrConstraintTooLong", Rows.laid_pub_timebook_pub_semver_ErrConstraintTooLong), ("pub-timebook/pub/semver.ErrTooManyConstraintGroups", Rows.laid_pub_timebook_pub_semver_ErrTooManyConstraintGroups), ("pub-timebook/pub/semver.ErrInvalidSemVer", Rows.laid_pub_timebook_pub_semver_ErrInvalidSemVer), ("pub-timebook/pub/semver.ErrEmptyString", Rows.laid_pub_timebook_pub_semver_ErrEmptyString), ("pub-timebook/pub/semver.ErrInvalidCharacters", Rows.laid_pub_timebook_pub_semver_ErrInvalidCharacters), ("pub-timebook/pub/semver.ErrSegmentStartsZero", Rows.laid_pub_timebook_pub_semver_ErrSegmentStartsZero), ("pub-timebook/pub/semver.ErrInvalidMetadata", Rows.laid_pub_timebook_pub_semver_ErrInvalidMetadata), ("pub-timebook/pub/semver.ErrInvalidPrerelease", Rows.laid_pub_timebook_pub_semver_ErrInvalidPrerelease), ("pub-timebook/pub/semver.ErrVersionTooLong", Rows.laid_pub_timebook_pub_semver_ErrVersionTooLong)] [.data, .data, .data, .sentinel, .sentinel, .sentinel, .sentinel, .sentinel, .sentinel, .sentinel, .sentinel, .sentinel, .sentinel, .sentinel] true :=
  Program.laidByTextLater_by_one 233 8 65 (by kernel_rfl) (by kernel_rfl) (by kernel_rfl) (by kernel_rfl) (by kernel_rfl) (by kernel_rfl) (fun _ _ => by kernel_rfl)
theorem noOwnUnsafe : Tryd.pinned.checked.prog.headLifts.contains "ownunsafe" = false := by kernel_rfl
theorem tie : Tryd.prog.laidByTextLater [("pub-timebook/pub/semver.ErrInvalidMetadata", Rows.laid_pub_timebook_pub_semver_ErrInvalidMetadata)] [.sentinel] true :=
  Program.laidByTextLater.sub seatTie1 ["pub-timebook/pub/semver.ErrInvalidMetadata"] (by kernel_rfl) (by kernel_rfl)
theorem fnSemverValidMeta_row_tie : Rows.fnSemverValidMetaRow.laidByTextAt .later Tryd.pinned [.sentinel] true :=
  OpenClaim.laidByTextAt_later rfl rfl tie noOwnUnsafe
theorem tie2 : Tryd.prog.laidByTextLater [("pub-timebook/pub/semver.ErrSegmentStartsZero", Rows.laid_pub_timebook_pub_semver_ErrSegmentStartsZero), ("pub-timebook/pub/semver.ErrInvalidMetadata", Rows.laid_pub_timebook_pub_semver_ErrInvalidMetadata), ("pub-timebook/pub/semver.ErrInvalidPrerelease", Rows.laid_pub_timebook_pub_semver_ErrInvalidPrerelease)] [.sentinel, .sentinel, .sentinel] true :=
  Program.laidByTextLater.sub seatTie1 ["pub-timebook/pub/semver.ErrSegmentStartsZero", "pub-timebook/pub/semver.ErrInvalidMetadata", "pub-timebook/pub/semver.ErrInvalidPrerelease"] (by kernel_rfl) (by kernel_rfl)
theorem fnSemverValidZeros_row_tie : Rows.fnSemverValidZerosRow.laidByTextAt .later Tryd.pinned [.sentinel, .sentinel, .sentinel] true :=
  OpenClaim.laidByTextAt_later rfl rfl tie2 noOwnUnsafe
theorem tie3 : Tryd.prog.laidByTextLater [("math/bits.deBruijn32tab", Rows.laid_math_bits_deBruijn32tab), ("math/bits.deBruijn64tab", Rows.laid_math_bits_deBruijn64tab), ("internal/strconv.uint64pow10", Rows.laid_internal_strconv_uint64pow10)] [.data, .data, .data] true :=
  Program.laidByTextLater.sub seatTie1 ["math/bits.deBruijn32tab", "math/bits.deBruijn64tab", "internal/strconv.uint64pow10"] (by kernel_rfl) (by kernel_rfl)
theorem fnSemverPrintsApart_row_tie : Rows.fnSemverPrintsApartRow.laidByTextAt .later Tryd.pinned [.data, .data, .data] true :=
  OpenClaim.laidByTextAt_later rfl rfl tie3 noOwnUnsafe
theorem tie4 : Tryd.prog.laidByTextLater [("math/bits.deBruijn32tab", Rows.laid_math_bits_deBruijn32tab), ("math/bits.deBruijn64tab", Rows.laid_math_bits_deBruijn64tab), ("internal/strconv.uint64pow10", Rows.laid_internal_strconv_uint64pow10), ("strconv.ErrRange", Rows.laid_strconv_ErrRange), ("strconv.ErrSyntax", Rows.laid_strconv_ErrSyntax)] [.data, .data, .data, .sentinel, .sentinel] true :=
  Program.laidByTextLater.sub seatTie1 ["math/bits.deBruijn32tab", "math/bits.deBruijn64tab", "internal/strconv.uint64pow10", "strconv.ErrRange", "strconv.ErrSyntax"] (by kernel_rfl) (by kernel_rfl)
theorem fnSemverPartNumbers_row_tie : Rows.fnSemverPartNumbersRow.laidByTextAt .later Tryd.pinned [.data, .data, .data, .sentinel, .sentinel] true :=
  OpenClaim.laidByTextAt_later rfl rfl tie4 noOwnUnsafe
theorem fnSemverReleaseAbove_row_tie : Rows.fnSemverReleaseAboveRow.laidByTextAt .later Tryd.pinned [.data, .data, .data, .sentinel, .sentinel] true :=
  OpenClaim.laidByTextAt_later rfl rfl tie4 noOwnUnsafe
theorem fnSemverIncPatchLeast_row_tie : Rows.fnSemverIncPatchLeastRow.laidByTextAt .later Tryd.pinned [.data, .data, .data, .sentinel, .sentinel] true :=
  OpenClaim.laidByTextAt_later rfl rfl tie4 noOwnUnsafe
theorem tie5 : Tryd.prog.laidByTextLater [("math/bits.deBruijn32tab", Rows.laid_math_bits_deBruijn32tab), ("math/bits.deBruijn64tab", Rows.laid_math_bits_deBruijn64tab), ("internal/strconv.uint64pow10", Rows.laid_internal_strconv_uint64pow10), ("strconv.ErrRange", Rows.laid_strconv_ErrRange), ("strconv.ErrSyntax", Rows.laid_strconv_ErrSyntax), ("pub-timebook/pub/semver.ErrConstraintTooLong", Rows.laid_pub_timebook_pub_semver_ErrConstraintTooLong), ("pub-timebook/pub/semver.ErrTooManyConstraintGroups", Rows.laid_pub_timebook_pub_semver_ErrTooManyConstraintGroups), ("pub-timebook/pub/semver.ErrInvalidSemVer", Rows.laid_pub_timebook_pub_semver_ErrInvalidSemVer), ("pub-timebook/pub/semver.ErrEmptyString", Rows.laid_pub_timebook_pub_semver_ErrEmptyString), ("pub-timebook/pub/semver.ErrInvalidCharacters", Rows.laid_pub_timebook_pub_semver_ErrInvalidCharacters), ("pub-timebook/pub/semver.ErrSegmentStartsZero", Rows.laid_pub_timebook_pub_semver_ErrSegmentStartsZero), ("pub-timebook/pub/semver.ErrInvalidMetadata", Rows.laid_pub_timebook_pub_semver_ErrInvalidMetadata), ("pub-timebook/pub/semver.ErrInvalidPrerelease", Rows.laid_pub_timebook_pub_semver_ErrInvalidPrerelease), ("pub-timebook/pub/semver.ErrVersionTooLong", Rows.laid_pub_timebook_pub_semver_ErrVersionTooLong)] [.data, .data, .data, .sentinel, .sentinel, .sentinel, .sentinel, .sentinel, .sentinel, .sentinel, .sentinel, .sentinel, .sentinel, .sentinel] true :=
  Program.laidByTextLater.sub seatTie1 ["math/bits.deBruijn32tab", "math/bits.deBruijn64tab", "internal/strconv.uint64pow10", "strconv.ErrRange", "strconv.ErrSyntax", "pub-timebook/pub/semver.ErrConstraintTooLong", "pub-timebook/pub/semver.ErrTooManyConstraintGroups", "pub-timebook/pub/semver.ErrInvalidSemVer", "pub-timebook/pub/semver.ErrEmptyString", "pub-timebook/pub/semver.ErrInvalidCharacters", "pub-timebook/pub/semver.ErrSegmentStartsZero", "pub-timebook/pub/semver.ErrInvalidMetadata", "pub-timebook/pub/semver.ErrInvalidPrerelease", "pub-timebook/pub/semver.ErrVersionTooLong"] (by kernel_rfl) (by kernel_rfl)
theorem fnSemverKindOfNext_row_tie : Rows.fnSemverKindOfNextRow.laidByTextAt .later Tryd.pinned [.data, .data, .data, .sentinel, .sentinel, .sentinel, .sentinel, .sentinel, .sentinel, .sentinel, .sentinel, .sentinel, .sentinel, .sentinel] true :=
  OpenClaim.laidByTextAt_later rfl rfl tie5 noOwnUnsafe
theorem fnSemverValidMetaUpto_row_tie : Rows.fnSemverValidMetaUptoRow.laidByTextAt .later Tryd.pinned [.sentinel] true :=
  OpenClaim.laidByTextAt_later rfl rfl tie noOwnUnsafe
theorem fnSemverValidZerosUpto_row_tie : Rows.fnSemverValidZerosUptoRow.laidByTextAt .later Tryd.pinned [.sentinel, .sentinel, .sentinel] true :=
  OpenClaim.laidByTextAt_later rfl rfl tie2 noOwnUnsafe
theorem fnSemverPrintsApartUpto_row_tie : Rows.fnSemverPrintsApartUptoRow.laidByTextAt .later Tryd.pinned [.data, .data, .data] true :=
  OpenClaim.laidByTextAt_later rfl rfl tie3 noOwnUnsafe
theorem fnSemverPartNumbersUpto_row_tie : Rows.fnSemverPartNumbersUptoRow.laidByTextAt .later Tryd.pinned [.data, .data, .data, .sentinel, .sentinel] true :=
  OpenClaim.laidByTextAt_later rfl rfl tie4 noOwnUnsafe
theorem fnSemverReleaseAboveUpto_row_tie : Rows.fnSemverReleaseAboveUptoRow.laidByTextAt .later Tryd.pinned [.data, .data, .data, .sentinel, .sentinel] true :=
  OpenClaim.laidByTextAt_later rfl rfl tie4 noOwnUnsafe
theorem fnSemverIncPatchLeastUpto_row_tie : Rows.fnSemverIncPatchLeastUptoRow.laidByTextAt .later Tryd.pinned [.data, .data, .data, .sentinel, .sentinel] true :=
  OpenClaim.laidByTextAt_later rfl rfl tie4 noOwnUnsafe
theorem fnSemverKindOfNextUpto_row_tie : Rows.fnSemverKindOfNextUptoRow.laidByTextAt .later Tryd.pinned [.data, .data, .data, .sentinel, .sentinel, .sentinel, .sentinel, .sentinel, .sentinel, .sentinel, .sentinel, .sentinel, .sentinel, .sentinel] true :=
  OpenClaim.laidByTextAt_later rfl rfl tie5 noOwnUnsafe
end Go.Proofs.YtekmeoemnekmcaaDoor
