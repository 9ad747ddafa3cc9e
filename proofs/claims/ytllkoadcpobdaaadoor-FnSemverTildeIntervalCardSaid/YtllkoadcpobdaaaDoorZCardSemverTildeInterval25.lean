/- The row and the tied card of FnSemverTildeInterval, out of its printed walk and its plain law. For every input that the statement lets in. -/
import Derived.Test.YtllkoadcpobdaaaDoorZCardSemverTildeInterval6
import Derived.Test.YtllkoadcpobdaaaDoorZCardSemverTildeInterval21
import Derived.Test.YtllkoadcpobdaaaDoorZCardSemverTildeInterval22
import Derived.Test.YtllkoadcpobdaaaDoorZCardSemverTildeInterval23
import Derived.Test.YtllkoadcpobdaaaDoorZCardSemverTildeInterval24
namespace Go.Proofs.YtllkoadcpobdaaaDoor.Base
end Go.Proofs.YtllkoadcpobdaaaDoor.Base
namespace Go.Proofs.YtllkoadcpobdaaaDoor.Bt
end Go.Proofs.YtllkoadcpobdaaaDoor.Bt
namespace Go.Proofs.YtllkoadcpobdaaaDoor.L
end Go.Proofs.YtllkoadcpobdaaaDoor.L
namespace Go.Proofs.YtllkoadcpobdaaaDoor.PX
end Go.Proofs.YtllkoadcpobdaaaDoor.PX
namespace Go.Proofs.YtllkoadcpobdaaaDoor.Parse
end Go.Proofs.YtllkoadcpobdaaaDoor.Parse
namespace Go.Proofs.YtllkoadcpobdaaaDoor.KX

open Go Go.RowKit Go.Lib Go.Proofs Go.Proofs.YtllkoadcpobdaaaDoor.Base Go.Proofs.YtllkoadcpobdaaaDoor.L Go.Proofs.YtllkoadcpobdaaaDoor.Bt Go.Proofs.YtllkoadcpobdaaaDoor.Parse Go.Proofs.YtllkoadcpobdaaaDoor.PX

open Go.Proofs.YtllkoadcpobdaaaDoorW.PrintWords Go.Proofs.YtllkoadcpobdaaaDoorW.PrintLast Go.Proofs.YtllkoadcpobdaaaDoorW.PrintMore

theorem tilde_f (op n : Int) (a b c x y z : Nat) (h : 1 ≤ n ∧ n ≤ 3) (hz : n = 3 → ¬ (a = 0 ∧ b = 0 ∧ c = 0)) :
    impl_TildeHolds.f op n a b c E0 x y z E0 E0 false = some (decide (¬ Low x y z a b c) && (decide (x = a) && (decide (n = 1) || decide (y = b)))) := by
  unfold impl_TildeHolds.f
  rw [if_pos ⟨by omega, okE a b c, okE x y z⟩]
  have := tilde_law (vOf x y z E0 E0) (vOf a b c E0 ⟨#[]⟩) n false h.1 h.2 hz (by show (false || (E0.toList == [])) = true; rw [toList_bl]; rfl)
  rw [this]
  congr 2
  exact decide_eq_decide.2 (rel_ge _ _ rfl rfl)

theorem ti_j3 (k : Nat) (n : Int) (a b c x y z : Nat) (t : Bool) (h : 1 ≤ n ∧ n ≤ 3) (hz : n = 3 → ¬ (a = 0 ∧ b = 0 ∧ c = 0))
    (ht : t = (decide (¬ Low x y z a (if n < 2 then 0 else b) (if n < 3 then 0 else c)) && (decide (x = a) && (decide (n = 1) || decide (y = if n < 2 then 0 else b))))) :
    laws_FnSemverTildeInterval.j3 (k + 1) n t a b c E0 E0 x y z E0 E0 (a : Int) ((if n < 2 then 0 else b : Nat) : Int) ((if n < 3 then 0 else c : Nat) : Int) E0 E0 = some true := by
  simp only [laws_FnSemverTildeInterval.j3]
  rw [stTerm_f 0 a b c E0 n h, Option.bind_some]
  simp only []
  have hz2 : n = 3 → ¬ (a = 0 ∧ (if n < 2 then 0 else b) = 0 ∧ (if n < 3 then 0 else c) = 0) := by
    rintro rfl; exact hz rfl
  rw [tilde_f 0 n _ _ _ x y z h hz2, Option.bind_some, ← ht, if_pos (by simp), Option.bind_some]
  simp only []
  rw [tilde_f 0 n _ _ _ _ _ _ h hz2, Option.bind_some]
  unfold Low
  simp

theorem ti_j2 (k : Nat) (n : Int) (a b c x y z u v w : Nat) (h : 1 ≤ n ∧ n ≤ 3) (hz : n = 3 → ¬ (a = 0 ∧ b = 0 ∧ c = 0))
    (hn : (n = 1 ∧ u = a + 1 ∧ v = 0 ∧ w = 0) ∨ (1 < n ∧ u = a ∧ v = b + 1 ∧ w = 0)) :
    laws_FnSemverTildeInterval.j2 (k + 2) n a b c E0 E0 x y z E0 E0 u v w E0 E0 = some true := by
  simp only [laws_FnSemverTildeInterval.j2]
  rw [first_f a b c E0 E0 n h, Option.bind_some]
  simp only [impl_VersionGreaterEqual.f, impl_VersionLess.f]
  rw [if_pos (And.intro (okE x y z) (okE a (if n < 2 then 0 else b) (if n < 3 then 0 else c))), if_pos (And.intro (okE x y z) (okE u v w)), Option.bind_some, Option.bind_some]
  have e1 : decide (0 ≤ verC (vOf x y z E0 E0) (vOf a ((if n < 2 then 0 else b : Nat) : Int) ((if n < 3 then 0 else c : Nat) : Int) E0 E0)) = decide (¬ Low x y z a (if n < 2 then 0 else b) (if n < 3 then 0 else c)) := decide_eq_decide.2 (rel_ge _ _ rfl rfl)
  have e2 : decide (verC (vOf x y z E0 E0) (vOf u v w E0 E0) < 0) = decide (Low x y z u v w) := decide_eq_decide.2 (rel_lt _ _ rfl rfl)
  rw [e1, e2]
  by_cases q : ¬ Low x y z a (if n < 2 then 0 else b) (if n < 3 then 0 else c)
  · rw [decide_eq_true q, if_pos rfl]
    refine ti_j3 k n a b c x y z _ h hz ?_
    rw [decide_eq_true q, Bool.true_and, ← Bool.decide_or, ← Bool.decide_and]
    apply decide_eq_decide.2
    unfold Low at *
    rcases hn with ⟨rfl, rfl, rfl, rfl⟩ | ⟨h2, rfl, rfl, rfl⟩
    · simp at *; omega
    · rw [if_neg (by omega)] at *
      omega
  · rw [decide_eq_false q, if_neg (by decide)]
    refine ti_j3 k n a b c x y z _ h hz ?_
    rw [decide_eq_false q, Bool.false_and]

theorem ti_j1 (k : Nat) (n : Int) (a b c x y z : Nat) (fl : Bool) (hf : fl = false → (1 ≤ n ∧ n ≤ 3) ∧ (n = 3 → ¬ (a = 0 ∧ b = 0 ∧ c = 0)) ∧ a + 1 ≤ 18446744073709551615 ∧ (1 < n → b + 1 ≤ 18446744073709551615)) :
    laws_FnSemverTildeInterval.j1 (k + 3) n fl a b c E0 E0 x y z E0 E0 = some true := by
  simp only [laws_FnSemverTildeInterval.j1]
  cases fl with
  | true => rfl
  | false =>
    obtain ⟨h, hz, ha, hb⟩ := hf rfl
    rw [if_neg (by decide)]
    by_cases q : n > 1
    · rw [if_pos q, show IntKind.u64.wrap ((b : Int) + 1) = ((b + 1 : Nat) : Int) by rw [IntKind.wrap_u64]; have := hb q; omega]
      exact ti_j2 k n a b c x y z a (b + 1) 0 h hz (.inr ⟨q, rfl, rfl, rfl⟩)
    · rw [if_neg q, show IntKind.u64.wrap ((a : Int) + 1) = ((a + 1 : Nat) : Int) by rw [IntKind.wrap_u64]; omega]
      exact ti_j2 k n a b c x y z (a + 1) 0 0 h hz (.inl ⟨by omega, rfl, rfl, rfl⟩)

theorem ti_j0 (k : Nat) (n : Int) (a b c x y z : Nat) (p m q r : ByteArray) (fl : Bool) (ha : a ≤ 18446744073709551615) (hb : b ≤ 18446744073709551615) :
    laws_FnSemverTildeInterval.j0 (k + 4) n fl a b c p m x y z q r = some true := by
  simp only [laws_FnSemverTildeInterval.j0]
  cases fl with
  | true => rfl
  | false =>
    rw [if_neg (by decide)]
    simp only [laws_stBare.f, spec_Bare.f, Option.bind_some]
    by_cases h1 : n ≥ 1
    · rw [if_pos h1, Option.bind_some]
      simp only []
      by_cases h3 : n ≤ 3
      · rw [decide_eq_true h3, if_pos rfl, plus_f a b c n ha hb h1, Option.bind_some, zero_f, Option.bind_some]
        have key : ((!(decide (a + 1 ≤ 18446744073709551615) && (decide (n ≤ 1) || decide (b + 1 ≤ 18446744073709551615)))) = false) → a + 1 ≤ 18446744073709551615 ∧ (1 < n → b + 1 ≤ 18446744073709551615) := by
          intro e
          simp only [Bool.not_eq_false', Bool.and_eq_true, Bool.or_eq_true, decide_eq_true_eq] at e
          exact ⟨e.1, fun q => by omega⟩
        by_cases h4 : n = 3
        · rw [if_pos h4]
          by_cases h5 : a = 0 ∧ b = 0 ∧ c = 0
          · rw [decide_eq_true h5, if_pos rfl]
            exact ti_j1 k n a b c x y z true (by simp)
          · rw [decide_eq_false h5, if_neg (by decide)]
            exact ti_j1 k n a b c x y z _ (fun e => ⟨⟨h1, h3⟩, fun _ => h5, (key e).1, (key e).2⟩)
        · rw [if_neg h4]
          exact ti_j1 k n a b c x y z _ (fun e => ⟨⟨h1, h3⟩, fun z => absurd z h4, (key e).1, (key e).2⟩)
      · rw [decide_eq_false h3, if_neg (by decide)]
        exact ti_j1 k n a b c x y z true (by simp)
    · rw [if_neg h1, Option.bind_some]
      exact ti_j1 k n a b c x y z true (by simp)

theorem pure_TildeInterval (a b c : Nat) (p m : ByteArray) (n : Int) (x y z : Nat) (q r : ByteArray) (ha : a ≤ 18446744073709551615) (hb : b ≤ 18446744073709551615) (_ : c ≤ 18446744073709551615) (_ : -9223372036854775808 ≤ n ∧ n ≤ 9223372036854775807) (_ : x ≤ 18446744073709551615) (_ : y ≤ 18446744073709551615) (_ : z ≤ 18446744073709551615) :
    ∃ k, laws_FnSemverTildeInterval.f k a b c p m n x y z q r = some true := by
  refine ⟨4, ?_⟩
  unfold laws_FnSemverTildeInterval.f
  rw [fits14_f, Option.bind_some]
  split
  · rw [fits14_f, Option.bind_some]
    exact ti_j0 0 n a b c x y z p m q r _ ha hb
  · exact ti_j0 0 n a b c x y z p m q r _ ha hb

end Go.Proofs.YtllkoadcpobdaaaDoor.KX
