/- The row and the tied card of FnSemverTermsOne, out of its printed walk and its plain law. For every input that the statement lets in. -/
import Derived.Test.YtllkoadcpobdaaaDoorZCardSemverTermsOne1
import Derived.Test.YtllkoadcpobdaaaDoorZCardSemverTermsOne6
import Derived.Test.YtllkoadcpobdaaaDoorZCardSemverTermsOne8
import Derived.Test.YtllkoadcpobdaaaDoorZCardSemverTermsOne19
import Derived.Test.YtllkoadcpobdaaaDoorZCardSemverTermsOne22
import Derived.Test.YtllkoadcpobdaaaDoorZCardSemverTermsOne24
import Derived.Deep.RegionHeld3
import Derived.Deep.LoopGhost
import Derived.Deep.QuietTactic
import Derived.BigQuiet
import Derived.Lib.QuietBelow
namespace Go.Proofs.YtllkoadcpobdaaaDoor.Base
end Go.Proofs.YtllkoadcpobdaaaDoor.Base
namespace Go.Proofs.YtllkoadcpobdaaaDoor.Bt
end Go.Proofs.YtllkoadcpobdaaaDoor.Bt
namespace Go.Proofs.YtllkoadcpobdaaaDoor.L
end Go.Proofs.YtllkoadcpobdaaaDoor.L
namespace Go.Proofs.YtllkoadcpobdaaaDoor.PX
end Go.Proofs.YtllkoadcpobdaaaDoor.PX
namespace Go.Proofs.YtllkoadcpobdaaaDoor.Parse
end Go.Proofs.YtllkoadcpobdaaaDoor.Parse
namespace Go.Proofs.YtllkoadcpobdaaaDoor.KX

open Go Go.RowKit Go.Lib Go.Proofs Go.Proofs.YtllkoadcpobdaaaDoor.Base Go.Proofs.YtllkoadcpobdaaaDoor.L Go.Proofs.YtllkoadcpobdaaaDoor.Bt Go.Proofs.YtllkoadcpobdaaaDoor.Parse Go.Proofs.YtllkoadcpobdaaaDoor.PX

open Go.Proofs.YtllkoadcpobdaaaDoorW.PrintWords Go.Proofs.YtllkoadcpobdaaaDoorW.PrintLast Go.Proofs.YtllkoadcpobdaaaDoorW.PrintMore

theorem fits13_f (op gv a b c : Int) (p : ByteArray) : laws_zzFits13.f op gv a b c p = some (decide (p.size ≤ 2147483647)) := by
  unfold laws_zzFits13.f
  by_cases h1 : p.size ≤ 2147483647
  · rw [if_neg (by omega), decide_eq_true h1]
  · rw [if_pos (by omega), decide_eq_false h1]

theorem good_parts {x : S26} (h : goodS x = true) : x.f3.size ≤ 65536 ∧ x.f4.size ≤ 65536 ∧ gPre (bl x.f3) = true := by
  unfold goodS partsOk at h
  simp only [Bool.and_eq_true, decide_eq_true_eq] at h
  exact ⟨h.1.1, h.1.2, h.2.1⟩

end Go.Proofs.YtllkoadcpobdaaaDoor.KX
