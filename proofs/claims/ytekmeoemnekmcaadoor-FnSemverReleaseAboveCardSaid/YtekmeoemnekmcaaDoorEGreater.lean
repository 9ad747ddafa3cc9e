/- impl.VersionGreater as the printed texts take it: for numbers that are uint64 and prereleases of at most 10^9 bytes. -/
import Derived.Test.YtekmeoemnekmcaaDoorKGreaterX
import Derived.Test.YtekmeoemnekmcaaDoorVOfX
namespace Go.Proofs.YtekmeoemnekmcaaDoor.PX
open Go Go.Proofs Go.RowKit Go.Lib Go.Proofs.YtekmeoemnekmcaaDoor.L Go.Proofs.YtekmeoemnekmcaaDoor.Bt Go.Proofs.YtekmeoemnekmcaaDoor.KX

def impl_VersionGreater.f (a0 a1 a2 : Int) (a3 a4 : ByteArray) (b0 b1 b2 : Int) (b3 b4 : ByteArray) : Option Bool :=
  if okV a0 a1 a2 a3 ∧ okV b0 b1 b2 b3 then some (decide (0 < verC (vOf a0 a1 a2 a3 a4) (vOf b0 b1 b2 b3 b4))) else none
theorem impl_VersionGreater.calls (a0 a1 a2 : Int) (a3 a4 : ByteArray) (b0 b1 b2 : Int) (b3 b4 : ByteArray) (r : Bool) (w : World) (hStd : Std w) (h : impl_VersionGreater.f a0 a1 a2 a3 a4 b0 b1 b2 b3 b4 = some r) :
    Calls Tryd.prog 24 #[.agg #[.int .u64 a0, .int .u64 a1, .int .u64 a2, .string a3, .string a4], .agg #[.int .u64 b0, .int .u64 b1, .int .u64 b2, .string b3, .string b4]] w fun e w' => e = .returned (.bool r) ∧ Below w.heap.size w w' := by
  unfold impl_VersionGreater.f at h
  by_cases hc : okV a0 a1 a2 a3 ∧ okV b0 b1 b2 b3
  · rw [if_pos hc] at h
    cases h
    obtain ⟨⟨x0, x1, x2, x3⟩, ⟨y0, y1, y2, y3⟩⟩ := hc
    obtain ⟨a0, rfl⟩ := Int.eq_ofNat_of_zero_le x0
    obtain ⟨a1, rfl⟩ := Int.eq_ofNat_of_zero_le x1
    obtain ⟨a2, rfl⟩ := Int.eq_ofNat_of_zero_le x2
    obtain ⟨b0, rfl⟩ := Int.eq_ofNat_of_zero_le y0
    obtain ⟨b1, rfl⟩ := Int.eq_ofNat_of_zero_le y1
    obtain ⟨b2, rfl⟩ := Int.eq_ofNat_of_zero_le y2
    exact implGreaterThan a0 a1 a2 b0 b1 b2 a3 a4 b3 b4 x3 y3 w hStd
  · rw [if_neg hc] at h
    cases h
end Go.Proofs.YtekmeoemnekmcaaDoor.PX
