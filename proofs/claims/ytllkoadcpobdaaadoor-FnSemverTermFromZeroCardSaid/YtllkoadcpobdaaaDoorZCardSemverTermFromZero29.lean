/- The row and the tied card of FnSemverTermFromZero, out of its printed walk and its plain law. For every input that the statement lets in. -/
import Derived.Test.YtllkoadcpobdaaaDoorZCardSemverTermFromZero6
import Derived.Test.YtllkoadcpobdaaaDoorZCardSemverTermFromZero24
import Derived.Test.YtllkoadcpobdaaaDoorZCardSemverTermFromZero26
import Derived.Test.YtllkoadcpobdaaaDoorZCardSemverTermFromZero27
import Derived.Test.YtllkoadcpobdaaaDoorZCardSemverTermFromZero28
namespace Go.Proofs.YtllkoadcpobdaaaDoor.Base
end Go.Proofs.YtllkoadcpobdaaaDoor.Base
namespace Go.Proofs.YtllkoadcpobdaaaDoor.Bt
end Go.Proofs.YtllkoadcpobdaaaDoor.Bt
namespace Go.Proofs.YtllkoadcpobdaaaDoor.L
end Go.Proofs.YtllkoadcpobdaaaDoor.L
namespace Go.Proofs.YtllkoadcpobdaaaDoor.PX
end Go.Proofs.YtllkoadcpobdaaaDoor.PX
namespace Go.Proofs.YtllkoadcpobdaaaDoor.Parse
end Go.Proofs.YtllkoadcpobdaaaDoor.Parse
namespace Go.Proofs.YtllkoadcpobdaaaDoor.KX

open Go Go.RowKit Go.Lib Go.Proofs Go.Proofs.YtllkoadcpobdaaaDoor.Base Go.Proofs.YtllkoadcpobdaaaDoor.L Go.Proofs.YtllkoadcpobdaaaDoor.Bt Go.Proofs.YtllkoadcpobdaaaDoor.Parse Go.Proofs.YtllkoadcpobdaaaDoor.PX

open Go.Proofs.YtllkoadcpobdaaaDoorW.PrintWords Go.Proofs.YtllkoadcpobdaaaDoorW.PrintLast Go.Proofs.YtllkoadcpobdaaaDoorW.PrintMore

theorem leastI (v n : Ver) (gv : Int) (mD d pD : Bool) : termI 4 v n mD d pD true = decide (0 ≤ verC v n) := by
  unfold termI
  rw [if_neg (by decide), if_neg (by decide), if_neg (by decide), if_neg (by decide), if_pos rfl, least_l v n gv _ _ _ true rfl]
  unfold compB
  rw [if_neg (by decide), if_neg (by decide), if_neg (by decide), if_neg (by decide), if_pos rfl]

theorem tz_j0 (k : Nat) (fl : Bool) (a b c : Nat) (p m : ByteArray) (x y z : Nat) (q r : ByteArray) (hk : 140010 ≤ k) :
    laws_FnSemverTermFromZero.j0 (k + 1) fl a b c p m x y z q r = some true := by
  simp only [laws_FnSemverTermFromZero.j0]
  cases fl with
  | true => rfl
  | false =>
    rw [if_neg (by decide), svGood_k _ (by simp) _ (by simp; omega), Option.bind_some]
    split
    · rename_i hs
      simp only [List.all_cons, List.all_nil, Bool.and_true] at hs
      obtain ⟨s1, s2, s3⟩ := good_parts hs
      simp only [] at s1 s2 s3
      simp only [laws_svPre.f, laws_stTerm.f, Option.bind_some]
      rw [if_pos (by decide), if_pos (by decide), if_pos (by decide), numbers_f, Option.bind_some]
      unfold impl_TermHolds.f impl_TermsHold.f
      have e48 : (⟨#[48]⟩ : ByteArray).size = 1 := rfl
      have k1 : okV (a : Int) b c ⟨#[48]⟩ := by unfold okV; omega
      have k2 : okV (x : Int) y z q := by unfold okV; omega
      rw [if_pos ⟨by decide, by decide, k1, k2⟩, Option.bind_some]
      have e1 : ∀ n : Ver, n.ma = a → n.mi = b → n.pa = c → bl n.pre = [48] → decide (0 ≤ verC (vOf x y z q r) n) = decide (numC 3 x y z a b c ≥ 0) := by
        rintro n rfl rfl rfl hn
        exact decide_eq_decide.2 (ge_zero (vOf x y z q r) s3 n hn)
      rw [leastI _ _ 3, e1 (vOf a b c ⟨#[48]⟩ ⟨#[]⟩) rfl rfl rfl rfl, if_pos (by simp)]
      have e2 : okLB [[(⟨4, 3, a, b, c, ⟨#[48]⟩⟩ : S24)]] = true := okL_one _ (okTB_mk 4 3 a b c _ (by decide) (by decide) (by decide))
      rw [if_pos ⟨e2, k2⟩, Option.bind_some, holds_one]
      have e3 : oneB (vOf x y z q r) (false || !(bl (⟨#[48]⟩ : ByteArray) == [])) (⟨4, 3, a, b, c, ⟨#[48]⟩⟩ : S24) = decide (numC 3 x y z a b c ≥ 0) := by
        show termI 4 _ _ _ _ _ true = _
        rw [leastI _ _ 3]
        exact e1 _ rfl rfl rfl rfl
      rw [e3]
      simp
    · rfl

theorem pure_TermFromZero (a b c : Nat) (p m : ByteArray) (x y z : Nat) (q r : ByteArray) (_ : a ≤ 18446744073709551615) (_ : b ≤ 18446744073709551615) (_ : c ≤ 18446744073709551615) (_ : x ≤ 18446744073709551615) (_ : y ≤ 18446744073709551615) (_ : z ≤ 18446744073709551615) :
    ∃ k, laws_FnSemverTermFromZero.f k a b c p m x y z q r = some true := by
  refine ⟨140011, ?_⟩
  unfold laws_FnSemverTermFromZero.f
  rw [fits14_f, Option.bind_some]
  split
  · rw [fits14_f, Option.bind_some]
    exact tz_j0 140010 _ a b c p m x y z q r (by omega)
  · exact tz_j0 140010 _ a b c p m x y z q r (by omega)

end Go.Proofs.YtllkoadcpobdaaaDoor.KX
