/- A version out of its parts, as the printed texts have them. -/
import Derived.Test.YtekmeoemnekmcaaDoorKVersionX
namespace Go.Proofs.YtekmeoemnekmcaaDoor.PX
open Go Go.Proofs Go.RowKit Go.Lib Go.Proofs.YtekmeoemnekmcaaDoor.L Go.Proofs.YtekmeoemnekmcaaDoor.Bt Go.Proofs.YtekmeoemnekmcaaDoor.KX
/-- Numbers that are none below 0, and a prerelease of at most 10^9 bytes. -/
def okV (a b c : Int) (p : ByteArray) : Prop := 0 ≤ a ∧ 0 ≤ b ∧ 0 ≤ c ∧ p.size ≤ 1000000000
instance (a b c : Int) (p : ByteArray) : Decidable (okV a b c p) := by unfold okV; infer_instance
/-- The version of these parts. -/
def vOf (a b c : Int) (p m : ByteArray) : Ver := ⟨a.toNat, b.toNat, c.toNat, p, m, ⟨#[]⟩⟩
end Go.Proofs.YtekmeoemnekmcaaDoor.PX
