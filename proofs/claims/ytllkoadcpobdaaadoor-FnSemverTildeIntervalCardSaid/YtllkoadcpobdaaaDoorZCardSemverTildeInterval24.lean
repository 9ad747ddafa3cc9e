/- The row and the tied card of FnSemverTildeInterval, out of its printed walk and its plain law. For every input that the statement lets in. -/
import Derived.Test.YtllkoadcpobdaaaDoorZCardSemverTildeInterval6
import Derived.Test.YtllkoadcpobdaaaDoorZCardSemverTildeInterval8
import Derived.Test.YtllkoadcpobdaaaDoorZCardSemverTildeInterval9
import Derived.Test.YtllkoadcpobdaaaDoorZCardSemverTildeInterval18
import Derived.Test.YtllkoadcpobdaaaDoorZCardSemverTildeInterval22
namespace Go.Proofs.YtllkoadcpobdaaaDoor.Base
end Go.Proofs.YtllkoadcpobdaaaDoor.Base
namespace Go.Proofs.YtllkoadcpobdaaaDoor.Bt
end Go.Proofs.YtllkoadcpobdaaaDoor.Bt
namespace Go.Proofs.YtllkoadcpobdaaaDoor.L
end Go.Proofs.YtllkoadcpobdaaaDoor.L
namespace Go.Proofs.YtllkoadcpobdaaaDoor.PX
end Go.Proofs.YtllkoadcpobdaaaDoor.PX
namespace Go.Proofs.YtllkoadcpobdaaaDoor.Parse
end Go.Proofs.YtllkoadcpobdaaaDoor.Parse
namespace Go.Proofs.YtllkoadcpobdaaaDoor.KX

open Go Go.RowKit Go.Lib Go.Proofs Go.Proofs.YtllkoadcpobdaaaDoor.Base Go.Proofs.YtllkoadcpobdaaaDoor.L Go.Proofs.YtllkoadcpobdaaaDoor.Bt Go.Proofs.YtllkoadcpobdaaaDoor.Parse Go.Proofs.YtllkoadcpobdaaaDoor.PX

open Go.Proofs.YtllkoadcpobdaaaDoorW.PrintWords Go.Proofs.YtllkoadcpobdaaaDoorW.PrintLast Go.Proofs.YtllkoadcpobdaaaDoorW.PrintMore

abbrev E0 : ByteArray := ⟨#[]⟩

theorem okE (a b c : Nat) : okV (a : Int) b c E0 := by unfold okV; have : E0.size = 0 := rfl; omega

/-- The first n numbers of three, zeros behind them. -/
theorem first_f (a b c : Nat) (p m : ByteArray) (n : Int) (h : 1 ≤ n ∧ n ≤ 3) : laws_scFirst.f (a : Int) b c p m n = some ((a : Int), ((if n < 2 then 0 else b : Nat) : Int), ((if n < 3 then 0 else c : Nat) : Int), E0, E0) := by
  unfold laws_scFirst.f
  obtain rfl | rfl | rfl : n = 1 ∨ n = 2 ∨ n = 3 := by omega
  · rfl
  · rfl
  · rfl

theorem stTerm_f (op : Int) (a b c : Nat) (m : ByteArray) (n : Int) (h : 1 ≤ n ∧ n ≤ 3) : laws_stTerm.f op (a : Int) b c E0 m n = some (op, n, (a : Int), ((if n < 2 then 0 else b : Nat) : Int), ((if n < 3 then 0 else c : Nat) : Int), E0) := by
  unfold laws_stTerm.f
  obtain rfl | rfl | rfl : n = 1 ∨ n = 2 ∨ n = 3 := by omega
  · rfl
  · rfl
  · rfl

theorem plus_f (a b c : Nat) (n : Int) (ha : a ≤ 18446744073709551615) (hb : b ≤ 18446744073709551615) (h : 1 ≤ n) (p m : ByteArray) :
    laws_scPlus.f a b c p m (mn n 2) = some (decide (a + 1 ≤ 18446744073709551615) && (decide (n ≤ 1) || decide (b + 1 ≤ 18446744073709551615))) := by
  unfold laws_scPlus.f mn
  rw [IntKind.wrap_u64, IntKind.wrap_u64, IntKind.wrap_u64]
  by_cases h1 : a + 1 ≤ 18446744073709551615
  · rw [if_neg (by omega), decide_eq_true h1, Bool.true_and]
    by_cases h2 : n ≤ 1
    · obtain rfl : n = 1 := by omega
      simp
    · have e : (if 2 < n then 2 else n) = 2 := by split <;> omega
      rw [e, if_neg (by decide), decide_eq_false h2, Bool.false_or]
      by_cases h3 : b + 1 ≤ 18446744073709551615
      · rw [if_neg (by omega), if_pos (by decide), decide_eq_true h3]
      · rw [if_pos (by omega), decide_eq_false h3]
  · rw [if_pos (by omega), decide_eq_false h1, Bool.false_and]

theorem zero_f (a b c : Nat) (p m : ByteArray) : laws_stZero.f a b c p m = some (decide (a = 0 ∧ b = 0 ∧ c = 0)) := by
  unfold laws_stZero.f
  have := numbers_f a b c 0 0 0 p m E0 E0 3
  rw [show ((0 : Nat) : Int) = 0 from rfl] at this
  rw [this, Option.bind_some]
  congr 1
  rw [Bool.eq_iff_iff, beq_iff_eq, decide_eq_true_eq]
  unfold numC
  rcases seg_cases a 0 with ⟨h1, s1⟩ | ⟨h1, s1⟩ | ⟨h1, s1⟩ <;> rcases seg_cases b 0 with ⟨h2, s2⟩ | ⟨h2, s2⟩ | ⟨h2, s2⟩ <;> rcases seg_cases c 0 with ⟨h3, s3⟩ | ⟨h3, s3⟩ | ⟨h3, s3⟩ <;> simp [s1, s2, s3] <;> omega

end Go.Proofs.YtllkoadcpobdaaaDoor.KX
