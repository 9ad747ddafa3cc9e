/- The row and the tied card of FnSemverKindOfNext, out of its printed walk and its plain law. For every input that the statement lets in. -/
import Derived.Test.YtnncjgoogjookaaDoorZCardSemverKindOfNext2
import Derived.Test.YtnncjgoogjookaaDoorZCardSemverKindOfNext12
import Derived.Shelf.Pu.ParseUintPublic10
import Derived.Lib.AtoiErrMem
namespace Go.Proofs.YtnncjgoogjookaaDoor.Parse

open Go.RowKit Go.Lib Go.Proofs

/-- The number that a text is, if ParseUint takes it. -/
def num (l : List UInt8) : Option Nat := match Lib.parseUintB 64 l with | .ok u => some u | _ => none

theorem parse_ok (s : ByteArray) (hs : s.size ≤ 2147483647) (u : Nat) (h : num s.data.toList = some u) (w : World) :
    Calls Tryd.prog 21 #[.string s, .int .i64 10, .int .i64 64] w fun e w' => e = .returned (.tuple #[.int .u64 (u : Int), .nilIface]) ∧ Below w.heap.size w w' := by
  have h' : Lib.parseUintB 64 s.data.toList = .ok u := by
    unfold num at h
    split at h
    · rename_i e; cases h; exact e
    · cases h
  refine (Any.strconv_ParseUint_10_at64_ok Tryd.laysPu14 s (by omega) u h' w).mono ?_
  rintro e w' ⟨rfl, hw⟩
  refine ⟨rfl, ?_⟩
  rcases hw with rfl | rfl
  · exact Below.refl _ _
  · exact Lib.bytesWorld_below _ _ _

end Go.Proofs.YtnncjgoogjookaaDoor.Parse
