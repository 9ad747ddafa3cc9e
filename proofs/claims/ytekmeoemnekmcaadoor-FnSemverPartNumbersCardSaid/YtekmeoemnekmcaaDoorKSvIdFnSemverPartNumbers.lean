/- What the printed svIdent tells. -/
import Derived.Test.YtekmeoemnekmcaaDoorKVPreFnSemverPartNumbers
import Derived.Test.YtekmeoemnekmcaaDoorKShortFnSemverPartNumbers
namespace Go.Proofs.YtekmeoemnekmcaaDoor.KFnSemverPartNumbers
open Go.RowKit Go.Proofs.YtekmeoemnekmcaaDoor.L Go.Proofs.YtekmeoemnekmcaaDoor.Bt Go.Proofs.YtekmeoemnekmcaaDoor.PFnSemverPartNumbers
open Go.Proofs.YtekmeoemnekmcaaDoorW.PrintWords Go.Proofs.YtekmeoemnekmcaaDoorW.PrintLast Go.Proofs.YtekmeoemnekmcaaDoorW.PrintMore

def identOk (s : ByteArray) : Bool := decide (s.size ≤ 65536) && (metaP (bl s) && (preOk (bl s) && smallOk (bl s)))
theorem svIdent_f (s : ByteArray) : ∃ k, laws_svIdent.f k s = some (identOk s) := by
  refine ⟨2 * s.size + 5, ?_⟩
  unfold laws_svIdent.f identOk
  rw [show 2 * s.size + 5 = (2 * s.size + 3) + 2 by omega, short_f, Option.bind_some]
  by_cases h : s.size ≤ 65536
  · rw [decide_eq_true h, if_pos rfl, validIdent_f s (by omega) _ (by omega), Option.bind_some]
    cases metaP (bl s)
    · rfl
    · rw [if_pos rfl, validPre_f s (by omega) _ (by omega), Option.bind_some]
      cases preOk (bl s)
      · rfl
      · rw [if_pos rfl, smallPre_f s (by omega) _ (by omega), Option.bind_some]; rfl
  · rw [decide_eq_false h]; rfl
end Go.Proofs.YtekmeoemnekmcaaDoor.KFnSemverPartNumbers
