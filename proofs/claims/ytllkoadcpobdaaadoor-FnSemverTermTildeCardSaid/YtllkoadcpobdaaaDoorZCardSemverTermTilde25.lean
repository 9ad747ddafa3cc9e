/- The row and the tied card of FnSemverTermTilde, out of its printed walk and its plain law. For every input that the statement lets in. -/
import Derived.Test.YtllkoadcpobdaaaDoorZCardSemverTermTilde6
import Derived.Test.YtllkoadcpobdaaaDoorZCardSemverTermTilde8
import Derived.Test.YtllkoadcpobdaaaDoorZCardSemverTermTilde22
import Derived.Test.YtllkoadcpobdaaaDoorZCardSemverTermTilde24
namespace Go.Proofs.YtllkoadcpobdaaaDoor.Base
end Go.Proofs.YtllkoadcpobdaaaDoor.Base
namespace Go.Proofs.YtllkoadcpobdaaaDoor.Bt
end Go.Proofs.YtllkoadcpobdaaaDoor.Bt
namespace Go.Proofs.YtllkoadcpobdaaaDoor.L
end Go.Proofs.YtllkoadcpobdaaaDoor.L
namespace Go.Proofs.YtllkoadcpobdaaaDoor.PX
end Go.Proofs.YtllkoadcpobdaaaDoor.PX
namespace Go.Proofs.YtllkoadcpobdaaaDoor.Parse
end Go.Proofs.YtllkoadcpobdaaaDoor.Parse
namespace Go.Proofs.YtllkoadcpobdaaaDoor.Part
end Go.Proofs.YtllkoadcpobdaaaDoor.Part
namespace Go.Proofs.YtllkoadcpobdaaaDoor.KX

open Go Go.RowKit Go.Lib Go.Proofs Go.Proofs.YtllkoadcpobdaaaDoor.Base Go.Proofs.YtllkoadcpobdaaaDoor.L Go.Proofs.YtllkoadcpobdaaaDoor.Bt Go.Proofs.YtllkoadcpobdaaaDoor.Parse Go.Proofs.YtllkoadcpobdaaaDoor.PX

open Go.Proofs.YtllkoadcpobdaaaDoorW.PrintWords Go.Proofs.YtllkoadcpobdaaaDoorW.PrintLast Go.Proofs.YtllkoadcpobdaaaDoorW.PrintMore

/-- How a version stands to the numbers given. -/
def upperC (gv : Int) (v n : Ver) : Int := if gv = 3 then verC v n else numC gv v.ma v.mi v.pa n.ma n.mi n.pa

end Go.Proofs.YtllkoadcpobdaaaDoor.KX
namespace Go.Proofs.YtllkoadcpobdaaaDoor.KX

open Go Go.RowKit Go.Lib Go.Proofs Go.Proofs.YtllkoadcpobdaaaDoor.Base Go.Proofs.YtllkoadcpobdaaaDoor.L Go.Proofs.YtllkoadcpobdaaaDoor.Bt Go.Proofs.YtllkoadcpobdaaaDoor.Parse Go.Proofs.YtllkoadcpobdaaaDoor.Part Go.Proofs.YtllkoadcpobdaaaDoor.PX

open Go.Proofs.YtllkoadcpobdaaaDoorW.PrintWords Go.Proofs.YtllkoadcpobdaaaDoorW.PrintLast Go.Proofs.YtllkoadcpobdaaaDoorW.PrintMore

/-- How many numbers a caret holds fast. -/
def caretN (gv : Int) (a b c : Nat) : Int := if a ≠ 0 then 1 else if b ≠ 0 then 2 else if c ≠ 0 then 3 else gv

/-- How a version stands to a term, as documented. -/
def compB (op gv : Int) (v n : Ver) : Bool :=
  if op = 0 then (upperC gv v n == 0) && (decide (gv = 3) || decide (0 ≤ verC v n))
  else if op = 1 then upperC gv v n != 0
  else if op = 2 then decide (0 < upperC gv v n)
  else if op = 3 then decide (verC v n < 0)
  else if op = 4 then decide (0 ≤ verC v n)
  else if op = 5 then decide (upperC gv v n ≤ 0)
  else if op = 6 then decide (0 ≤ verC v n) && (numC (mn 2 gv) v.ma v.mi v.pa n.ma n.mi n.pa == 0)
  else decide (0 ≤ verC v n) && (numC (caretN gv n.ma n.mi n.pa) v.ma v.mi v.pa n.ma n.mi n.pa == 0)

theorem below_l (v n : Ver) (gv : Int) (mD d pD pre : Bool) (hv : (pre || (v.pre.toList == [])) = true) : belowB v n mD d pD pre = compB 3 gv v n := by
  unfold belowB compB cBelow_r
  rw [if_neg (by decide), if_neg (by decide), if_neg (by decide), if_pos rfl]
  generalize (v.pre.toList == []) = q at *
  cases pre <;> cases q <;> cases decide (verC v n < 0) <;> simp at hv ⊢

theorem least_l (v n : Ver) (gv : Int) (mD d pD pre : Bool) (hv : (pre || (v.pre.toList == [])) = true) : leastB v n mD d pD pre = compB 4 gv v n := by
  unfold leastB compB cLeast_r
  rw [if_neg (by decide), if_neg (by decide), if_neg (by decide), if_neg (by decide), if_pos rfl]
  generalize (v.pre.toList == []) = q at *
  cases pre <;> cases q <;> cases decide (0 ≤ verC v n) <;> simp at hv ⊢

end Go.Proofs.YtllkoadcpobdaaaDoor.KX
