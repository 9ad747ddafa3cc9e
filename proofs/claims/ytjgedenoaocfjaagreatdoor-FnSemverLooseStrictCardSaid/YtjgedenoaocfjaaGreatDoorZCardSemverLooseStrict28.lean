/- The row and the tied card of FnSemverLooseStrict, out of its printed walk and its plain law. For every input that the statement lets in. -/
import Derived.Test.YtjgedenoaocfjaaGreatDoorZCardSemverLooseStrict0
import Derived.Test.YtjgedenoaocfjaaGreatDoorZCardSemverLooseStrict25
import Derived.Test.YtjgedenoaocfjaaGreatDoorZCardSemverLooseStrict27
import Derived.Deep.RegionHeld3
import Derived.RegionTactic
import Derived.Deep.RegionWith
import Derived.Deep.DeepCutAuto
namespace Go.Proofs.YtjgedenoaocfjaaGreatDoor.Base
end Go.Proofs.YtjgedenoaocfjaaGreatDoor.Base
namespace Go.Proofs.YtjgedenoaocfjaaGreatDoor.Bt
end Go.Proofs.YtjgedenoaocfjaaGreatDoor.Bt
namespace Go.Proofs.YtjgedenoaocfjaaGreatDoor.KX
end Go.Proofs.YtjgedenoaocfjaaGreatDoor.KX
namespace Go.Proofs.YtjgedenoaocfjaaGreatDoor.L
end Go.Proofs.YtjgedenoaocfjaaGreatDoor.L
namespace Go.Proofs.YtjgedenoaocfjaaGreatDoor.PX
end Go.Proofs.YtjgedenoaocfjaaGreatDoor.PX
namespace Go.Proofs.YtjgedenoaocfjaaGreatDoor.SemC
end Go.Proofs.YtjgedenoaocfjaaGreatDoor.SemC
namespace Go.Proofs.YtjgedenoaocfjaaGreatDoor.KX.SetPrerelease

open Go Go.RowKit Go.Lib Go.Sort Go.Proofs Go.Proofs.YtjgedenoaocfjaaGreatDoor Go.Proofs.YtjgedenoaocfjaaGreatDoor.Base Go.Proofs.YtjgedenoaocfjaaGreatDoor.L Go.Proofs.YtjgedenoaocfjaaGreatDoor.Bt Go.Proofs.YtjgedenoaocfjaaGreatDoor.PX Go.Proofs.YtjgedenoaocfjaaGreatDoor.KX Go.Proofs.YtjgedenoaocfjaaGreatDoor.SemC

open Go.Proofs.YtjgedenoaocfjaaGreatDoorW.PrintWords Go.Proofs.YtjgedenoaocfjaaGreatDoorW.PrintLast Go.Proofs.YtjgedenoaocfjaaGreatDoorW.PrintMore

attribute [local go_sem] setCell_drewN alloc_drewN

structure S3 (w : World) (v z n : List Value) (wx : World) : Prop where
  v : Box wx w.heap.size v
  z : Box wx (w.heap.size + 1) z
  n : Box wx (w.heap.size + 1 + 1) n
  bel : Below w.heap.size w wx

theorem S3.below {w wx wy : World} {v z n : List Value} (h : S3 w v z n wx) (hb : Below wx.heap.size wx wy) : S3 w v z n wy := ⟨h.v.below hb, h.z.below hb, h.n.below hb, h.bel.trans (hb.mono h.bel.size)⟩

end Go.Proofs.YtjgedenoaocfjaaGreatDoor.KX.SetPrerelease
namespace Go.Proofs.YtjgedenoaocfjaaGreatDoor.KX.SetMetadata

open Go Go.RowKit Go.Lib Go.Sort Go.Proofs Go.Proofs.YtjgedenoaocfjaaGreatDoor Go.Proofs.YtjgedenoaocfjaaGreatDoor.Base Go.Proofs.YtjgedenoaocfjaaGreatDoor.L Go.Proofs.YtjgedenoaocfjaaGreatDoor.Bt Go.Proofs.YtjgedenoaocfjaaGreatDoor.PX Go.Proofs.YtjgedenoaocfjaaGreatDoor.KX Go.Proofs.YtjgedenoaocfjaaGreatDoor.SemC

open Go.Proofs.YtjgedenoaocfjaaGreatDoorW.PrintWords Go.Proofs.YtjgedenoaocfjaaGreatDoorW.PrintLast Go.Proofs.YtjgedenoaocfjaaGreatDoorW.PrintMore

attribute [local go_sem] setCell_drewN alloc_drewN

structure S3 (w : World) (v z n : List Value) (wx : World) : Prop where
  v : Box wx w.heap.size v
  z : Box wx (w.heap.size + 1) z
  n : Box wx (w.heap.size + 1 + 1) n
  bel : Below w.heap.size w wx

theorem S3.below {w wx wy : World} {v z n : List Value} (h : S3 w v z n wx) (hb : Below wx.heap.size wx wy) : S3 w v z n wy := ⟨h.v.below hb, h.z.below hb, h.n.below hb, h.bel.trans (hb.mono h.bel.size)⟩

end Go.Proofs.YtjgedenoaocfjaaGreatDoor.KX.SetMetadata
