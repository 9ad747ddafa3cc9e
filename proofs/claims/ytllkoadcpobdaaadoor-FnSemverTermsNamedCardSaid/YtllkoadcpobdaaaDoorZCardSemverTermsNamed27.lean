/- The row and the tied card of FnSemverTermsNamed, out of its printed walk and its plain law. For every input that the statement lets in. -/
import Derived.Test.YtllkoadcpobdaaaDoorZCardSemverTermsNamed1
import Derived.Test.YtllkoadcpobdaaaDoorZCardSemverTermsNamed6
import Derived.Test.YtllkoadcpobdaaaDoorZCardSemverTermsNamed7
import Derived.Test.YtllkoadcpobdaaaDoorZCardSemverTermsNamed8
import Derived.Test.YtllkoadcpobdaaaDoorZCardSemverTermsNamed19
import Derived.Test.YtllkoadcpobdaaaDoorZCardSemverTermsNamed23
import Derived.Test.YtllkoadcpobdaaaDoorZCardSemverTermsNamed26
import Derived.Deep.RegionHeld3
import Derived.Deep.LoopGhost
import Derived.Deep.QuietTactic
import Derived.BigQuiet
import Derived.Lib.QuietBelow
namespace Go.Proofs.YtllkoadcpobdaaaDoor.Base
end Go.Proofs.YtllkoadcpobdaaaDoor.Base
namespace Go.Proofs.YtllkoadcpobdaaaDoor.Bt
end Go.Proofs.YtllkoadcpobdaaaDoor.Bt
namespace Go.Proofs.YtllkoadcpobdaaaDoor.L
end Go.Proofs.YtllkoadcpobdaaaDoor.L
namespace Go.Proofs.YtllkoadcpobdaaaDoor.PX
end Go.Proofs.YtllkoadcpobdaaaDoor.PX
namespace Go.Proofs.YtllkoadcpobdaaaDoor.Parse
end Go.Proofs.YtllkoadcpobdaaaDoor.Parse
namespace Go.Proofs.YtllkoadcpobdaaaDoor.Part
end Go.Proofs.YtllkoadcpobdaaaDoor.Part
namespace Go.Proofs.YtllkoadcpobdaaaDoor.KX

open Go Go.RowKit Go.Lib Go.Proofs Go.Proofs.YtllkoadcpobdaaaDoor.Base Go.Proofs.YtllkoadcpobdaaaDoor.L Go.Proofs.YtllkoadcpobdaaaDoor.Bt Go.Proofs.YtllkoadcpobdaaaDoor.Parse Go.Proofs.YtllkoadcpobdaaaDoor.PX

open Go.Proofs.YtllkoadcpobdaaaDoorW.PrintWords Go.Proofs.YtllkoadcpobdaaaDoorW.PrintLast Go.Proofs.YtllkoadcpobdaaaDoorW.PrintMore

theorem fits13_f (op gv a b c : Int) (p : ByteArray) : laws_zzFits13.f op gv a b c p = some (decide (p.size ≤ 2147483647)) := by
  unfold laws_zzFits13.f
  by_cases h1 : p.size ≤ 2147483647
  · rw [if_neg (by omega), decide_eq_true h1]
  · rw [if_pos (by omega), decide_eq_false h1]

/-- How a version stands to the numbers given. -/
def upperC (gv : Int) (v n : Ver) : Int := if gv = 3 then verC v n else numC gv v.ma v.mi v.pa n.ma n.mi n.pa

theorem good_parts {x : S26} (h : goodS x = true) : x.f3.size ≤ 65536 ∧ x.f4.size ≤ 65536 ∧ gPre (bl x.f3) = true := by
  unfold goodS partsOk at h
  simp only [Bool.and_eq_true, decide_eq_true_eq] at h
  exact ⟨h.1.1, h.1.2, h.2.1⟩

end Go.Proofs.YtllkoadcpobdaaaDoor.KX
namespace Go.Proofs.YtllkoadcpobdaaaDoor.KX

open Go Go.RowKit Go.Lib Go.Proofs Go.Proofs.YtllkoadcpobdaaaDoor.Base Go.Proofs.YtllkoadcpobdaaaDoor.L Go.Proofs.YtllkoadcpobdaaaDoor.Bt Go.Proofs.YtllkoadcpobdaaaDoor.Parse Go.Proofs.YtllkoadcpobdaaaDoor.Part Go.Proofs.YtllkoadcpobdaaaDoor.PX

open Go.Proofs.YtllkoadcpobdaaaDoorW.PrintWords Go.Proofs.YtllkoadcpobdaaaDoorW.PrintLast Go.Proofs.YtllkoadcpobdaaaDoorW.PrintMore

/-- How many numbers a caret holds fast. -/
def caretN (gv : Int) (a b c : Nat) : Int := if a ≠ 0 then 1 else if b ≠ 0 then 2 else if c ≠ 0 then 3 else gv

/-- How a version stands to a term, as documented. -/
def compB (op gv : Int) (v n : Ver) : Bool :=
  if op = 0 then (upperC gv v n == 0) && (decide (gv = 3) || decide (0 ≤ verC v n))
  else if op = 1 then upperC gv v n != 0
  else if op = 2 then decide (0 < upperC gv v n)
  else if op = 3 then decide (verC v n < 0)
  else if op = 4 then decide (0 ≤ verC v n)
  else if op = 5 then decide (upperC gv v n ≤ 0)
  else if op = 6 then decide (0 ≤ verC v n) && (numC (mn 2 gv) v.ma v.mi v.pa n.ma n.mi n.pa == 0)
  else decide (0 ≤ verC v n) && (numC (caretN gv n.ma n.mi n.pa) v.ma v.mi v.pa n.ma n.mi n.pa == 0)

theorem least_l (v n : Ver) (gv : Int) (mD d pD pre : Bool) (hv : (pre || (v.pre.toList == [])) = true) : leastB v n mD d pD pre = compB 4 gv v n := by
  unfold leastB compB cLeast_r
  rw [if_neg (by decide), if_neg (by decide), if_neg (by decide), if_neg (by decide), if_pos rfl]
  generalize (v.pre.toList == []) = q at *
  cases pre <;> cases q <;> cases decide (0 ≤ verC v n) <;> simp at hv ⊢

end Go.Proofs.YtllkoadcpobdaaaDoor.KX
