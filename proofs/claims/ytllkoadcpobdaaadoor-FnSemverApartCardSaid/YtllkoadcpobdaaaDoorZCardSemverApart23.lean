/- The row and the tied card of FnSemverApart, out of its printed walk and its plain law. For every input that the statement lets in. -/
import Derived.Test.YtllkoadcpobdaaaDoorZCardSemverApart1
import Derived.Test.YtllkoadcpobdaaaDoorZCardSemverApart7
import Derived.Test.YtllkoadcpobdaaaDoorZCardSemverApart8
import Derived.Test.YtllkoadcpobdaaaDoorZCardSemverApart9
import Derived.Test.YtllkoadcpobdaaaDoorZCardSemverApart20
import Derived.Deep.RegionHeld3
namespace Go.Proofs.YtllkoadcpobdaaaDoor.Base
end Go.Proofs.YtllkoadcpobdaaaDoor.Base
namespace Go.Proofs.YtllkoadcpobdaaaDoor.Bt
end Go.Proofs.YtllkoadcpobdaaaDoor.Bt
namespace Go.Proofs.YtllkoadcpobdaaaDoor.L
end Go.Proofs.YtllkoadcpobdaaaDoor.L
namespace Go.Proofs.YtllkoadcpobdaaaDoor.PX
end Go.Proofs.YtllkoadcpobdaaaDoor.PX
namespace Go.Proofs.YtllkoadcpobdaaaDoor.Parse
end Go.Proofs.YtllkoadcpobdaaaDoor.Parse
namespace Go.Proofs.YtllkoadcpobdaaaDoor.KX

open Go.RowKit Go.Lib Go.Sort Go.Proofs Go.Proofs.YtllkoadcpobdaaaDoor Go.Proofs.YtllkoadcpobdaaaDoor.Base Go.Proofs.YtllkoadcpobdaaaDoor.L Go.Proofs.YtllkoadcpobdaaaDoor.Bt Go.Proofs.YtllkoadcpobdaaaDoor.Parse Go.Proofs.YtllkoadcpobdaaaDoor.PX

open Go.Proofs.YtllkoadcpobdaaaDoorW.PrintWords Go.Proofs.YtllkoadcpobdaaaDoorW.PrintLast Go.Proofs.YtllkoadcpobdaaaDoorW.PrintMore

attribute [local go_sem] setCell_drewN alloc_drewN

/-- The cells of a version. -/
def vcells (a b c : Int) (p m o : ByteArray) : List Value := [.int .u64 a, .int .u64 b, .int .u64 c, .string p, .string m, .string o]

/-- It returns a pointer to a new block of these cells. -/
def NewAt (w : World) (xs : List Value) (e : Ending) (w' : World) : Prop := ∃ g : Nat, e = .returned (.pointer (some ⟨g, 0, none⟩)) ∧ At w' g xs ∧ w.heap.size ≤ g ∧ Below w.heap.size w w'

set_option maxHeartbeats 2000000 in
theorem implVersion (a b c : Int) (p m : ByteArray) (w : World) :
    Calls Tryd.prog 55 #[.agg #[.int .u64 a, .int .u64 b, .int .u64 c, .string p, .string m]] w (NewAt w (vcells a b c p m ⟨#[]⟩)) := by
  go_enter Tryd.func55, Tryd.ntmps55
  go_wp2
  go_ret
  exact ⟨w.heap.size + 1, rfl, At.new _ _ _ _ (by simp), by omega, by go_grown⟩

end Go.Proofs.YtllkoadcpobdaaaDoor.KX
