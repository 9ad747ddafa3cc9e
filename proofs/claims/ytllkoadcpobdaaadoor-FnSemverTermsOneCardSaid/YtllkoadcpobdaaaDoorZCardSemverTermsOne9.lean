/- The row and the tied card of FnSemverTermsOne, out of its printed walk and its plain law. For every input that the statement lets in. -/
import Derived.Test.YtllkoadcpobdaaaDoorZCardSemverTermsOne1
import Derived.Test.YtllkoadcpobdaaaDoorZCardSemverTermsOne8
import Derived.RegionTactic
import Derived.BigRegion
import Derived.Deep.RegionHeld3
namespace Go.Proofs.YtllkoadcpobdaaaDoor.Base
end Go.Proofs.YtllkoadcpobdaaaDoor.Base
namespace Go.Proofs.YtllkoadcpobdaaaDoor.PX

open Go Go.Proofs Go.RowKit Go.Lib Go.Sort Go.Proofs.YtllkoadcpobdaaaDoor Go.Proofs.YtllkoadcpobdaaaDoor.Base

attribute [local go_sem] setCell_drewN alloc_drewN

def laws_stTerm.f (a0 : Int) (b0 b1 b2 : Int) (b3 _ : ByteArray) (k : Int) : Option (Int × Int × Int × Int × Int × ByteArray) :=
  some (a0, k, b0, if 1 < k then b1 else 0, if 2 < k then b2 else 0, if 2 < k then b3 else ⟨#[]⟩)

def StRet (w : World) (r1 r2 r3 r4 r5 : Int) (r6 : ByteArray) (e : Ending) (w' : World) : Prop := e = .returned (.agg #[.int .i64 r1, .int .i64 r2, .int .u64 r3, .int .u64 r4, .int .u64 r5, .string r6]) ∧ Below w.heap.size w w'

set_option maxHeartbeats 8000000 in
set_option maxRecDepth 100000 in
theorem st_one (a0 b0 b1 b2 : Int) (b3 b4 : ByteArray) (k : Int) (w : World) (h1 : decide (1 < k) = false) (h2 : decide (2 < k) = false) :
    Calls Tryd.prog 28 #[.int .i64 a0, .agg #[.int .u64 b0, .int .u64 b1, .int .u64 b2, .string b3, .string b4], .int .i64 k] w (StRet w a0 k b0 0 0 ⟨#[]⟩) := by
  go_enter Tryd.func28, Tryd.ntmps28
  go_wp2
  exact bodyPost_ret (v := .agg #[.int .i64 a0, .int .i64 k, .int .u64 b0, .int .u64 0, .int .u64 0, .string ⟨#[]⟩]) (by simp [results, Tryd.results28, go_sem]) rfl ⟨rfl, by go_grown⟩

set_option maxHeartbeats 8000000 in
set_option maxRecDepth 100000 in
theorem st_two (a0 b0 b1 b2 : Int) (b3 b4 : ByteArray) (k : Int) (w : World) (h1 : decide (1 < k) = true) (h2 : decide (2 < k) = false) :
    Calls Tryd.prog 28 #[.int .i64 a0, .agg #[.int .u64 b0, .int .u64 b1, .int .u64 b2, .string b3, .string b4], .int .i64 k] w (StRet w a0 k b0 b1 0 ⟨#[]⟩) := by
  go_enter Tryd.func28, Tryd.ntmps28
  go_wp2
  exact bodyPost_ret (v := .agg #[.int .i64 a0, .int .i64 k, .int .u64 b0, .int .u64 b1, .int .u64 0, .string ⟨#[]⟩]) (by simp [results, Tryd.results28, go_sem]) rfl ⟨rfl, by go_grown⟩

set_option maxHeartbeats 8000000 in
set_option maxRecDepth 100000 in
theorem st_three (a0 b0 b1 b2 : Int) (b3 b4 : ByteArray) (k : Int) (w : World) (h1 : decide (1 < k) = true) (h2 : decide (2 < k) = true) :
    Calls Tryd.prog 28 #[.int .i64 a0, .agg #[.int .u64 b0, .int .u64 b1, .int .u64 b2, .string b3, .string b4], .int .i64 k] w (StRet w a0 k b0 b1 b2 b3) := by
  go_enter Tryd.func28, Tryd.ntmps28
  go_wp2_with fail
  go_region
  all_goals
    go_wp2
    exact bodyPost_ret (v := .agg #[.int .i64 a0, .int .i64 k, .int .u64 b0, .int .u64 b1, .int .u64 b2, .string b3]) (by simp [results, Tryd.results28, go_sem]) rfl ⟨rfl, by go_grown⟩

theorem laws_stTerm.calls (a0 : Int) (b0 b1 b2 : Int) (b3 b4 : ByteArray) (k : Int) (r1 r2 r3 r4 r5 : Int) (r6 : ByteArray) (w : World) (h : laws_stTerm.f a0 b0 b1 b2 b3 b4 k = some (r1, r2, r3, r4, r5, r6)) :
    Calls Tryd.prog 28 #[.int .i64 a0, .agg #[.int .u64 b0, .int .u64 b1, .int .u64 b2, .string b3, .string b4], .int .i64 k] w fun e w' => e = .returned (.agg #[.int .i64 r1, .int .i64 r2, .int .u64 r3, .int .u64 r4, .int .u64 r5, .string r6]) ∧ Below w.heap.size w w' := by
  unfold laws_stTerm.f at h
  simp only [Option.some.injEq, Prod.mk.injEq] at h
  obtain ⟨rfl, rfl, rfl, rfl, rfl, rfl⟩ := h
  by_cases h1 : 1 < k
  · by_cases h2 : 2 < k
    · rw [if_pos h1, if_pos h2, if_pos h2]
      exact st_three a0 b0 b1 b2 b3 b4 k w (decide_eq_true h1) (decide_eq_true h2)
    · rw [if_pos h1, if_neg h2, if_neg h2]
      exact st_two a0 b0 b1 b2 b3 b4 k w (decide_eq_true h1) (decide_eq_false h2)
  · have h2 : ¬ 2 < k := by omega
    rw [if_neg h1, if_neg h2, if_neg h2]
    exact st_one a0 b0 b1 b2 b3 b4 k w (decide_eq_false h1) (decide_eq_false h2)

end Go.Proofs.YtllkoadcpobdaaaDoor.PX
