/- The row and the tied card of FnSemverApart, out of its printed walk and its plain law. For every input that the statement lets in. -/
import Derived.Test.YtllkoadcpobdaaaDoorZCardSemverApart20
import Derived.RegionTactic
import Derived.Deep.RegionWith
namespace Go.Proofs.YtllkoadcpobdaaaDoor.Base
end Go.Proofs.YtllkoadcpobdaaaDoor.Base
namespace Go.Proofs.YtllkoadcpobdaaaDoor.Bt
end Go.Proofs.YtllkoadcpobdaaaDoor.Bt
namespace Go.Proofs.YtllkoadcpobdaaaDoor.L
end Go.Proofs.YtllkoadcpobdaaaDoor.L
namespace Go.Proofs.YtllkoadcpobdaaaDoor.PX
end Go.Proofs.YtllkoadcpobdaaaDoor.PX
namespace Go.Proofs.YtllkoadcpobdaaaDoor.Parse
end Go.Proofs.YtllkoadcpobdaaaDoor.Parse
namespace Go.Proofs.YtllkoadcpobdaaaDoor.KX

open Go.RowKit Go.Lib Go.Proofs Go.Sort Go.Proofs.YtllkoadcpobdaaaDoor.Base Go.Proofs.YtllkoadcpobdaaaDoor.L Go.Proofs.YtllkoadcpobdaaaDoor.Bt Go.Proofs.YtllkoadcpobdaaaDoor.Parse Go.Proofs.YtllkoadcpobdaaaDoor.PX

open Go.Proofs.YtllkoadcpobdaaaDoorW.PrintWords Go.Proofs.YtllkoadcpobdaaaDoorW.PrintLast Go.Proofs.YtllkoadcpobdaaaDoorW.PrintMore

attribute [local go_sem] setCell_drewN alloc_drewN

set_option maxHeartbeats 1000000 in
theorem cmpLessThan (v o : Ver) (bv bo : Nat) (sp : v.pre.size ≤ 2147483647) (sq : o.pre.size ≤ 2147483647) (w : World) (hv : VerAt w bv v) (ho : VerAt w bo o) (hw : Std w) :
    Calls Tryd.prog 61 #[.pointer (some ⟨bv, 0, none⟩), .pointer (some ⟨bo, 0, none⟩)] w fun e w' => e = .returned (.bool (decide (verC v o < 0))) ∧ Below w.heap.size w w' := by
  have C := Lib.hid (compare v o bv bo sp sq w hv ho hw)
  clear hv ho hw
  generalize verC v o = r at *
  go_enter Tryd.func61, Tryd.ntmps61
  go_wp2_with (go_at_call 86; refine C.out.mono ?_; rintro e w' ⟨rfl, hb⟩)
  go_ret
  exact ⟨rfl, hb⟩

end Go.Proofs.YtllkoadcpobdaaaDoor.KX
