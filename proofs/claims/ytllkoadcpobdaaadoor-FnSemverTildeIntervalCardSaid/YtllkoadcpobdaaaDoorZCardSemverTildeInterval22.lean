/- The row and the tied card of FnSemverTildeInterval, out of its printed walk and its plain law. For every input that the statement lets in. -/
import Derived.Test.YtllkoadcpobdaaaDoorZCardSemverTildeInterval3
import Derived.Test.YtllkoadcpobdaaaDoorZCardSemverTildeInterval6
import Derived.Test.YtllkoadcpobdaaaDoorZCardSemverTildeInterval8
import Derived.Test.YtllkoadcpobdaaaDoorZCardSemverTildeInterval13
import Derived.Test.YtllkoadcpobdaaaDoorZCardSemverTildeInterval15
import Derived.Test.YtllkoadcpobdaaaDoorZCardSemverTildeInterval16
import Derived.Test.YtllkoadcpobdaaaDoorZCardSemverTildeInterval18
import Derived.Lib.ParseIntB
namespace Go.Proofs.YtllkoadcpobdaaaDoor.Bt
end Go.Proofs.YtllkoadcpobdaaaDoor.Bt
namespace Go.Proofs.YtllkoadcpobdaaaDoor.L
end Go.Proofs.YtllkoadcpobdaaaDoor.L
namespace Go.Proofs.YtllkoadcpobdaaaDoor.Num
end Go.Proofs.YtllkoadcpobdaaaDoor.Num
namespace Go.Proofs.YtllkoadcpobdaaaDoor.PX
end Go.Proofs.YtllkoadcpobdaaaDoor.PX
namespace Go.Proofs.YtllkoadcpobdaaaDoor.Parse
end Go.Proofs.YtllkoadcpobdaaaDoor.Parse
namespace Go.Proofs.YtllkoadcpobdaaaDoor.Part
end Go.Proofs.YtllkoadcpobdaaaDoor.Part
namespace Go.Proofs.YtllkoadcpobdaaaDoor.KX

open Go Go.RowKit Go.Lib Go.Proofs Go.Proofs.YtllkoadcpobdaaaDoor.L Go.Proofs.YtllkoadcpobdaaaDoor.Bt Go.Proofs.YtllkoadcpobdaaaDoor.Parse Go.Proofs.YtllkoadcpobdaaaDoor.Part Go.Proofs.YtllkoadcpobdaaaDoor.Num Go.Proofs.YtllkoadcpobdaaaDoor.PX

open Go.Proofs.YtllkoadcpobdaaaDoorW.PrintWords Go.Proofs.YtllkoadcpobdaaaDoorW.PrintLast Go.Proofs.YtllkoadcpobdaaaDoorW.PrintMore

/-- A good prerelease: none, or a valid one of small numbers. -/
def gPre (l : List UInt8) : Bool := l == [] || (preOk l && smallOk l)

end Go.Proofs.YtllkoadcpobdaaaDoor.KX
namespace Go.Proofs.YtllkoadcpobdaaaDoor.KX

open Go Go.RowKit Go.Lib Go.Proofs Go.Proofs.YtllkoadcpobdaaaDoor.L Go.Proofs.YtllkoadcpobdaaaDoor.Bt Go.Proofs.YtllkoadcpobdaaaDoor.Parse Go.Proofs.YtllkoadcpobdaaaDoor.Part Go.Proofs.YtllkoadcpobdaaaDoor.Num Go.Proofs.YtllkoadcpobdaaaDoor.PX

open Go.Proofs.YtllkoadcpobdaaaDoorW.PrintWords Go.Proofs.YtllkoadcpobdaaaDoorW.PrintLast Go.Proofs.YtllkoadcpobdaaaDoorW.PrintMore

theorem ordI_nat (a b : Nat) : ordI (a : Int) (b : Int) = segC a b := by
  unfold ordI segC
  by_cases h1 : a < b
  · rw [if_pos (by omega), if_pos h1]
  · rw [if_neg (by omega), if_neg h1]
    by_cases h2 : b < a
    · rw [if_pos (by omega), if_pos h2]
    · rw [if_neg (by omega), if_neg h2]

/-- The first n numbers compared. -/
def numC (n : Int) (a b c a' b' c' : Nat) : Int := if 0 < n ∧ segC a a' ≠ 0 then segC a a' else if 1 < n ∧ segC b b' ≠ 0 then segC b b' else if 2 < n ∧ segC c c' ≠ 0 then segC c c' else 0

theorem cmpFrom_nat (n : Int) (a b c a' b' c' : Nat) : cmpFrom n 0 (a : Int) b c a' b' c' = numC n a b c a' b' c' := by
  unfold cmpFrom numC
  rw [ordI_nat, ordI_nat, ordI_nat]
  simp

theorem numbers_f (a b c a' b' c' : Nat) (p m p' m' : ByteArray) (n : Int) : spec_CompareNumbers.f (a : Int) b c p m (a' : Int) b' c' p' m' n = some (numC n a b c a' b' c') := by
  unfold spec_CompareNumbers.f
  rw [cmpFrom_nat]

/-- What a good term is. -/
structure GoodT (op gv a b c : Int) (p : List UInt8) : Prop where
  op0 : 0 ≤ op
  op8 : op < 8
  g0 : 0 ≤ gv
  g3 : gv ≤ 3
  pa : gv < 3 → c = 0
  pr : gv < 3 → p = []
  mi : gv < 2 → b = 0
  ma : gv < 1 → a = 0
  gp : gPre p = true
  wild : gv = 0 → op = 0 ∨ op = 4 ∨ op = 6
  zero : gv = 3 → op = 6 → a = 0 → b = 0 → c ≠ 0

end Go.Proofs.YtllkoadcpobdaaaDoor.KX
