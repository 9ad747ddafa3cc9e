/- The row and the tied card of FnSemverSetOriginal, out of its printed walk and its plain law. For every input that the statement lets in. -/
import Derived.Test.YtjgedenoaocfjaaGreatDoorZCardSemverSetOriginal4
import Derived.Test.YtjgedenoaocfjaaGreatDoorZCardSemverSetOriginal11
namespace Go.Proofs.YtjgedenoaocfjaaGreatDoor.L
end Go.Proofs.YtjgedenoaocfjaaGreatDoor.L
namespace Go.Proofs.YtjgedenoaocfjaaGreatDoor.PX

open Go Go.Proofs Go.RowKit Go.Lib Go.Proofs.YtjgedenoaocfjaaGreatDoor.L

def strconv_FormatUint.f (a b : Int) : Option ByteArray := if 0 ≤ a ∧ a ≤ 18446744073709551615 ∧ b = 10 then some (ofL (Lib.decDigits a.toNat)) else none

theorem strconv_FormatUint.calls (a b : Int) (r : ByteArray) (w : World) (hPow : Pow w) (h : strconv_FormatUint.f a b = some r) :
    Calls Tryz.prog 63 #[.int .u64 a, .int .i64 b] w fun e w' => e = .returned (.string r) ∧ Below w.heap.size w w' := by
  unfold strconv_FormatUint.f at h
  by_cases hc : 0 ≤ a ∧ a ≤ 18446744073709551615 ∧ b = 10
  · rw [if_pos hc] at h
    cases h
    obtain ⟨h0, h1, rfl⟩ := hc
    obtain ⟨u, rfl⟩ := Int.eq_ofNat_of_zero_le h0
    exact Fmt.fmtUint u (by omega) w hPow
  · rw [if_neg hc] at h
    cases h

end Go.Proofs.YtjgedenoaocfjaaGreatDoor.PX
