/- Contracts of functions that FnSemverPartNumbers reaches: made out of the kit's print for this law, some closers added. -/
import Derived.Test.YtekmeoemnekmcaaDoorProg
import Derived.Below
import Derived.Deep.Draws
import Derived.Deep.AppendLies
import Derived.Maps.AppendAt
import Derived.OwnWalk
import Derived.Laws.BytesArg
import Derived.Laws.MakeOwn
import Derived.Laws.OwnMore
import Derived.Deep.OwnRows
import Derived.Tactics
import Derived.Lib.ConvBytes
import Derived.Laws.Slices
import Derived.WalkKit
import Derived.KernelRfl
import Derived.RowKit3
import Derived.Deep.LoopGhost
import Derived.Deep.QuietTactic
import Derived.BigQuiet
import Derived.WideLaws
import Derived.Deep.DeepCutAuto
import Derived.Deep.CutBlock
import Derived.Deep.RegionHeld3
import Derived.Laws.Rows
import Derived.Lib.AppendStr
import Derived.ArgAppend
import Derived.Laws.IdiomCopy
import Derived.OrdersHeld
import Derived.Laws.BitsLemmas
import Derived.RowKit
import Derived.Test.YtekmeoemnekmcaaDoorWWords
import Derived.Test.YtekmeoemnekmcaaDoorWLast
import Derived.Test.YtekmeoemnekmcaaDoorWTab
import Derived.Test.YtekmeoemnekmcaaDoorWFour
import Derived.Test.YtekmeoemnekmcaaDoorWQPut
import Derived.Test.YtekmeoemnekmcaaDoorWApart
import Derived.Test.YtekmeoemnekmcaaDoorWArr
import Derived.Test.YtekmeoemnekmcaaDoorWZeros
import Derived.Test.YtekmeoemnekmcaaDoorWFoot
import Derived.Test.YtekmeoemnekmcaaDoorWKept
import Derived.Test.YtekmeoemnekmcaaDoorWShare
import Derived.Test.YtekmeoemnekmcaaDoorWN
import Derived.Test.YtekmeoemnekmcaaDoorWFootNe
import Derived.Test.YtekmeoemnekmcaaDoorWAt
import Derived.Test.YtekmeoemnekmcaaDoorWEqStruct
import Derived.Test.YtekmeoemnekmcaaDoorWRepsOne
import Derived.Test.YtekmeoemnekmcaaDoorWInv
import Derived.Test.YtekmeoemnekmcaaDoorWInvWords
import Derived.Test.YtekmeoemnekmcaaDoorWGuard
import Derived.Test.YtekmeoemnekmcaaDoorWNEv
import Derived.Test.YtekmeoemnekmcaaDoorWMore
namespace Go.Proofs.YtekmeoemnekmcaaDoor.PFnSemverPartNumbers
open Go.RowKit Go.Proofs.YtekmeoemnekmcaaDoorW.PrintWords Go.Proofs.YtekmeoemnekmcaaDoorW.PrintLast Go.Proofs.YtekmeoemnekmcaaDoorW.PrintMore
attribute [local go_sem] max2_int min2_int max_two min_two max_three min_three max_four min_four   -- for this text's walks alone
set_option linter.unusedVariables false
set_option linter.unusedSimpArgs false



def errW : Option Int → Value
  | none => .nilIface
  | some c => .iface 92 (.int .i64 c)
theorem errW_none : errW none = .nilIface := rfl
theorem errW_some (c : Int) : errW (some c) = .iface 92 (.int .i64 c) := rfl

theorem info5 : (Tryd.prog.info? 5).map (fun i => (i.zero, i.size, i.bytes)) = some (some (.int .u8 0), 1, 1) := by kernel_rfl
theorem info9 : (Tryd.prog.info? 9).map (fun i => (i.zero, i.size, i.bytes)) = some (some (.string ⟨#[]⟩), 1, 16) := by kernel_rfl
theorem bneNil (l : List UInt8) : (l != []) = !l.isEmpty := by cases l <;> rfl
theorem u8w (x : Int) : IntKind.u8.wrap x = x % 256 := by simp [IntKind.wrap, IntKind.bits, IntKind.signed]
-- the values' own types

end Go.Proofs.YtekmeoemnekmcaaDoor.PFnSemverPartNumbers
