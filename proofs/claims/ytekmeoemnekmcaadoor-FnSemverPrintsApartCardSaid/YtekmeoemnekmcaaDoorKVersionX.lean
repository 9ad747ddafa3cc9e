/- impl.version: a version laid in memory; the comparisons by name. For all versions whose prereleases have at most 10^9 bytes. -/
import Derived.Test.YtekmeoemnekmcaaDoorKCompareX
namespace Go.Proofs.YtekmeoemnekmcaaDoor.KX
open Go.RowKit Go.Lib Go.Proofs Go.Sort Go.Proofs.YtekmeoemnekmcaaDoor.Base Go.Proofs.YtekmeoemnekmcaaDoor.L Go.Proofs.YtekmeoemnekmcaaDoor.Bt Go.Proofs.YtekmeoemnekmcaaDoor.Parse Go.Proofs.YtekmeoemnekmcaaDoor.PX
open Go.Proofs.YtekmeoemnekmcaaDoorW.PrintWords Go.Proofs.YtekmeoemnekmcaaDoorW.PrintLast Go.Proofs.YtekmeoemnekmcaaDoorW.PrintMore
attribute [local go_sem] setCell_drewN alloc_drewN

/-- The argument as impl's Version. -/
def SomeVer (w : World) (v : Ver) (e : Ending) (w' : World) : Prop := ∃ g : Nat, e = .returned (.pointer (some ⟨g, 0, none⟩)) ∧ VerAt w' g v ∧ w.heap.size ≤ g ∧ Below w.heap.size w w'
set_option maxHeartbeats 2000000 in
set_option maxRecDepth 100000 in
theorem version (ma mi pa : Nat) (pre mt : ByteArray) (w : World) :
    Calls Tryd.prog 36 #[.agg #[.int .u64 (ma : Int), .int .u64 (mi : Int), .int .u64 (pa : Int), .string pre, .string mt]] w (SomeVer w ⟨ma, mi, pa, pre, mt, ⟨#[]⟩⟩) := by
  go_enter Tryd.func36, Tryd.ntmps36
  go_wp2
  go_ret
  exact ⟨w.heap.size + 1, rfl, ⟨by simp [go_sem], by simp [go_sem], by simp [go_sem], by simp [go_sem], by simp [go_sem], by simp [go_sem]⟩, by omega, by go_grown⟩
end Go.Proofs.YtekmeoemnekmcaaDoor.KX
