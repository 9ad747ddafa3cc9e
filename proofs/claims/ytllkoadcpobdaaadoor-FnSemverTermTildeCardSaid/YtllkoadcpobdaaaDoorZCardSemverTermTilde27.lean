/- The row and the tied card of FnSemverTermTilde, out of its printed walk and its plain law. For every input that the statement lets in. -/
import Derived.Test.YtllkoadcpobdaaaDoorZCardSemverTermTilde6
import Derived.Test.YtllkoadcpobdaaaDoorZCardSemverTermTilde23
import Derived.Test.YtllkoadcpobdaaaDoorZCardSemverTermTilde25
import Derived.Test.YtllkoadcpobdaaaDoorZCardSemverTermTilde26
namespace Go.Proofs.YtllkoadcpobdaaaDoor.Base
end Go.Proofs.YtllkoadcpobdaaaDoor.Base
namespace Go.Proofs.YtllkoadcpobdaaaDoor.Bt
end Go.Proofs.YtllkoadcpobdaaaDoor.Bt
namespace Go.Proofs.YtllkoadcpobdaaaDoor.L
end Go.Proofs.YtllkoadcpobdaaaDoor.L
namespace Go.Proofs.YtllkoadcpobdaaaDoor.PX
end Go.Proofs.YtllkoadcpobdaaaDoor.PX
namespace Go.Proofs.YtllkoadcpobdaaaDoor.Parse
end Go.Proofs.YtllkoadcpobdaaaDoor.Parse
namespace Go.Proofs.YtllkoadcpobdaaaDoor.KX

open Go Go.RowKit Go.Lib Go.Proofs Go.Proofs.YtllkoadcpobdaaaDoor.Base Go.Proofs.YtllkoadcpobdaaaDoor.L Go.Proofs.YtllkoadcpobdaaaDoor.Bt Go.Proofs.YtllkoadcpobdaaaDoor.Parse Go.Proofs.YtllkoadcpobdaaaDoor.PX

open Go.Proofs.YtllkoadcpobdaaaDoorW.PrintWords Go.Proofs.YtllkoadcpobdaaaDoorW.PrintLast Go.Proofs.YtllkoadcpobdaaaDoorW.PrintMore

theorem holds_f (op n : Int) (a b c x y z : Nat) (m : ByteArray) (ho : 0 ≤ op ∧ op < 8) (h : 1 ≤ n ∧ n ≤ 3) :
    laws_stHolds.f op a b c E0 m n x y z E0 E0 = some (termI op (vOf x y z E0 E0) (vOf a ((if n < 2 then 0 else b : Nat) : Int) ((if n < 3 then 0 else c : Nat) : Int) E0 ⟨#[]⟩) (n == 1) (decide (n < 3)) (n == 2) true) := by
  unfold laws_stHolds.f
  rw [stTerm_f op a b c m n h, Option.bind_some]
  simp only [impl_TermHolds.f]
  rw [if_pos ⟨ho, by omega, okE _ _ _, okE _ _ _⟩, Option.bind_some]

theorem tilde_h (n : Int) (a b c x y z : Nat) (m : ByteArray) (h : 1 ≤ n ∧ n ≤ 3) (hz : n = 3 → ¬ (a = 0 ∧ b = 0 ∧ c = 0)) :
    laws_stHolds.f 6 a b c E0 m n x y z E0 E0 = some (decide (¬ Low x y z a (if n < 2 then 0 else b) (if n < 3 then 0 else c)) && (decide (x = a) && (decide (n = 1) || decide (y = if n < 2 then 0 else b)))) := by
  rw [holds_f 6 n a b c x y z m (by omega) h]
  congr 1
  have hz2 : n = 3 → ¬ (a = 0 ∧ (if n < 2 then 0 else b) = 0 ∧ (if n < 3 then 0 else c) = 0) := by
    rintro rfl; exact hz rfl
  have := tilde_law (vOf x y z E0 E0) (vOf a ((if n < 2 then 0 else b : Nat) : Int) ((if n < 3 then 0 else c : Nat) : Int) E0 ⟨#[]⟩) n true h.1 h.2 hz2 rfl
  unfold termI
  rw [if_neg (by decide), if_neg (by decide), if_neg (by decide), if_neg (by decide), if_neg (by decide), if_neg (by decide), if_pos rfl, this]
  congr 1
  exact decide_eq_decide.2 (rel_ge _ _ rfl rfl)

theorem least_h (n : Int) (a b c x y z : Nat) (m : ByteArray) (h : 1 ≤ n ∧ n ≤ 3) :
    laws_stHolds.f 4 a b c E0 m n x y z E0 E0 = some (decide (¬ Low x y z a (if n < 2 then 0 else b) (if n < 3 then 0 else c))) := by
  rw [holds_f 4 n a b c x y z m (by omega) h]
  congr 1
  unfold termI
  rw [if_neg (by decide), if_neg (by decide), if_neg (by decide), if_neg (by decide), if_pos rfl, least_l _ _ n _ _ _ true rfl]
  unfold compB
  rw [if_neg (by decide), if_neg (by decide), if_neg (by decide), if_neg (by decide), if_pos rfl]
  exact decide_eq_decide.2 (rel_ge _ _ rfl rfl)

theorem below_h (a b c x y z : Nat) (m : ByteArray) :
    laws_stHolds.f 3 a b c E0 m 3 x y z E0 E0 = some (decide (Low x y z a b c)) := by
  rw [holds_f 3 3 a b c x y z m (by omega) (by omega)]
  congr 1
  unfold termI
  rw [if_neg (by decide), if_neg (by decide), if_neg (by decide), if_pos rfl, below_l _ _ 3 _ _ _ true rfl]
  unfold compB
  rw [if_neg (by decide), if_neg (by decide), if_neg (by decide), if_pos rfl]
  exact decide_eq_decide.2 (rel_lt _ _ rfl rfl)

theorem tt_j2 (k : Nat) (n : Int) (a b c x y z u v w : Nat) (h : 1 ≤ n ∧ n ≤ 3) (hz : n = 3 → ¬ (a = 0 ∧ b = 0 ∧ c = 0))
    (hn : (n = 1 ∧ u = a + 1 ∧ v = 0 ∧ w = 0) ∨ (1 < n ∧ u = a ∧ v = b + 1 ∧ w = 0)) :
    laws_FnSemverTermTilde.j2 (k + 1) n a b c E0 E0 x y z E0 E0 u v w E0 E0 = some true := by
  simp only [laws_FnSemverTermTilde.j2]
  have own : laws_stHolds.f 6 a b c E0 E0 n a ((if n < 2 then 0 else b : Nat) : Int) ((if n < 3 then 0 else c : Nat) : Int) E0 E0 = some true := by
    rw [tilde_h n a b c a _ _ E0 h hz]
    unfold Low
    simp
  rw [tilde_h n a b c x y z E0 h hz, Option.bind_some, least_h n a b c x y z E0 h, Option.bind_some, below_h, Option.bind_some, first_f a b c E0 E0 n h, Option.bind_some]
  simp only []
  rw [own, Option.bind_some]
  by_cases q : ¬ Low x y z a (if n < 2 then 0 else b) (if n < 3 then 0 else c)
  · have e : (decide (x = a) && (decide (n = 1) || decide (y = if n < 2 then 0 else b))) = decide (Low x y z u v w) := by
      rw [← Bool.decide_or, ← Bool.decide_and]
      apply decide_eq_decide.2
      unfold Low at *
      rcases hn with ⟨rfl, rfl, rfl, rfl⟩ | ⟨h2, rfl, rfl, rfl⟩
      · simp at *; omega
      · rw [if_neg (by omega)] at *
        omega
    rw [decide_eq_true q, if_pos rfl, Bool.true_and, e, if_pos (by simp)]
  · rw [decide_eq_false q, if_neg (by decide), Bool.false_and, if_pos (by decide)]

theorem tt_j1 (k : Nat) (n : Int) (a b c x y z : Nat) (fl : Bool) (hf : fl = false → (1 ≤ n ∧ n ≤ 3) ∧ (n = 3 → ¬ (a = 0 ∧ b = 0 ∧ c = 0)) ∧ a + 1 ≤ 18446744073709551615 ∧ (1 < n → b + 1 ≤ 18446744073709551615)) :
    laws_FnSemverTermTilde.j1 (k + 3) n fl a b c E0 E0 x y z E0 E0 = some true := by
  simp only [laws_FnSemverTermTilde.j1]
  cases fl with
  | true => rfl
  | false =>
    obtain ⟨h, hz, ha, hb⟩ := hf rfl
    rw [if_neg (by decide)]
    by_cases q : n > 1
    · rw [if_pos q, show IntKind.u64.wrap ((b : Int) + 1) = ((b + 1 : Nat) : Int) by rw [IntKind.wrap_u64]; have := hb q; omega]
      exact tt_j2 k n a b c x y z a (b + 1) 0 h hz (.inr ⟨q, rfl, rfl, rfl⟩)
    · rw [if_neg q, show IntKind.u64.wrap ((a : Int) + 1) = ((a + 1 : Nat) : Int) by rw [IntKind.wrap_u64]; omega]
      exact tt_j2 k n a b c x y z (a + 1) 0 0 h hz (.inl ⟨by omega, rfl, rfl, rfl⟩)

theorem tt_j0 (k : Nat) (n : Int) (a b c x y z : Nat) (p m q r : ByteArray) (fl : Bool) (ha : a ≤ 18446744073709551615) (hb : b ≤ 18446744073709551615) :
    laws_FnSemverTermTilde.j0 (k + 4) n fl a b c p m x y z q r = some true := by
  simp only [laws_FnSemverTermTilde.j0]
  cases fl with
  | true => rfl
  | false =>
    rw [if_neg (by decide)]
    simp only [laws_stBare.f, spec_Bare.f, Option.bind_some]
    by_cases h1 : n ≥ 1
    · rw [if_pos h1, Option.bind_some]
      simp only []
      by_cases h3 : n ≤ 3
      · rw [decide_eq_true h3, if_pos rfl, plus_f a b c n ha hb h1, Option.bind_some, zero_f, Option.bind_some]
        have key : ((!(decide (a + 1 ≤ 18446744073709551615) && (decide (n ≤ 1) || decide (b + 1 ≤ 18446744073709551615)))) = false) → a + 1 ≤ 18446744073709551615 ∧ (1 < n → b + 1 ≤ 18446744073709551615) := by
          intro e
          simp only [Bool.not_eq_false', Bool.and_eq_true, Bool.or_eq_true, decide_eq_true_eq] at e
          exact ⟨e.1, fun q => by omega⟩
        by_cases h4 : n = 3
        · rw [if_pos h4]
          by_cases h5 : a = 0 ∧ b = 0 ∧ c = 0
          · rw [decide_eq_true h5, if_pos rfl]
            exact tt_j1 k n a b c x y z true (by simp)
          · rw [decide_eq_false h5, if_neg (by decide)]
            exact tt_j1 k n a b c x y z _ (fun e => ⟨⟨h1, h3⟩, fun _ => h5, (key e).1, (key e).2⟩)
        · rw [if_neg h4]
          exact tt_j1 k n a b c x y z _ (fun e => ⟨⟨h1, h3⟩, fun z => absurd z h4, (key e).1, (key e).2⟩)
      · rw [decide_eq_false h3, if_neg (by decide)]
        exact tt_j1 k n a b c x y z true (by simp)
    · rw [if_neg h1, Option.bind_some]
      exact tt_j1 k n a b c x y z true (by simp)

theorem pure_TermTilde (a b c : Nat) (p m : ByteArray) (n : Int) (x y z : Nat) (q r : ByteArray) (ha : a ≤ 18446744073709551615) (hb : b ≤ 18446744073709551615) (_ : c ≤ 18446744073709551615) (_ : -9223372036854775808 ≤ n ∧ n ≤ 9223372036854775807) (_ : x ≤ 18446744073709551615) (_ : y ≤ 18446744073709551615) (_ : z ≤ 18446744073709551615) :
    ∃ k, laws_FnSemverTermTilde.f k a b c p m n x y z q r = some true := by
  refine ⟨4, ?_⟩
  unfold laws_FnSemverTermTilde.f
  rw [fits14_f, Option.bind_some]
  split
  · rw [fits14_f, Option.bind_some]
    exact tt_j0 0 n a b c x y z p m q r _ ha hb
  · exact tt_j0 0 n a b c x y z p m q r _ ha hb

end Go.Proofs.YtllkoadcpobdaaaDoor.KX
