/- The row and the tied card of FnSemverTermsOne, out of its printed walk and its plain law. For every input that the statement lets in. -/
import Derived.Test.YtllkoadcpobdaaaDoorZCardSemverTermsOne1
import Derived.Test.YtllkoadcpobdaaaDoorZCardSemverTermsOne6
import Derived.Test.YtllkoadcpobdaaaDoorZCardSemverTermsOne8
import Derived.Test.YtllkoadcpobdaaaDoorZCardSemverTermsOne19
import Derived.Test.YtllkoadcpobdaaaDoorZCardSemverTermsOne22
import Derived.Test.YtllkoadcpobdaaaDoorZCardSemverTermsOne23
import Derived.Test.YtllkoadcpobdaaaDoorZCardSemverTermsOne24
import Derived.Test.YtllkoadcpobdaaaDoorZCardSemverTermsOne25
import Derived.Test.YtllkoadcpobdaaaDoorZCardSemverTermsOne26
import Derived.Deep.RegionHeld3
import Derived.Deep.LoopGhost
import Derived.Deep.QuietTactic
import Derived.BigQuiet
import Derived.Lib.QuietBelow
namespace Go.Proofs.YtllkoadcpobdaaaDoor.Base
end Go.Proofs.YtllkoadcpobdaaaDoor.Base
namespace Go.Proofs.YtllkoadcpobdaaaDoor.Bt
end Go.Proofs.YtllkoadcpobdaaaDoor.Bt
namespace Go.Proofs.YtllkoadcpobdaaaDoor.L
end Go.Proofs.YtllkoadcpobdaaaDoor.L
namespace Go.Proofs.YtllkoadcpobdaaaDoor.PX
end Go.Proofs.YtllkoadcpobdaaaDoor.PX
namespace Go.Proofs.YtllkoadcpobdaaaDoor.Parse
end Go.Proofs.YtllkoadcpobdaaaDoor.Parse
namespace Go.Proofs.YtllkoadcpobdaaaDoor.KX

open Go Go.RowKit Go.Lib Go.Proofs Go.Proofs.YtllkoadcpobdaaaDoor.Base Go.Proofs.YtllkoadcpobdaaaDoor.L Go.Proofs.YtllkoadcpobdaaaDoor.Bt Go.Proofs.YtllkoadcpobdaaaDoor.Parse Go.Proofs.YtllkoadcpobdaaaDoor.PX

open Go.Proofs.YtllkoadcpobdaaaDoorW.PrintWords Go.Proofs.YtllkoadcpobdaaaDoorW.PrintLast Go.Proofs.YtllkoadcpobdaaaDoorW.PrintMore

theorem equalI_self (v n : Ver) (mD pD pre : Bool) (h : verC v n = 0) (hp : (pre || (bl v.pre == [])) = true) : termI 0 v n mD false pD pre = true := by
  unfold termI equalB cEqual_r
  rw [if_pos rfl, h, toList_bl]
  generalize (bl v.pre == []) = q at *
  cases pre <;> cases q <;> simp at hp ⊢

theorem to_j1 (k : Nat) (fl pre : Bool) (op gv : Int) (a b c : Nat) (p : ByteArray) (x y z : Nat) (q r : ByteArray) (h : fl = false → GoodT op gv a b c (bl p) ∧ p.size ≤ 2147483647 ∧ q.size ≤ 65536) :
    laws_FnSemverTermsOne.j1 (k + 1) pre fl op gv a b c p x y z q r = some true := by
  simp only [laws_FnSemverTermsOne.j1]
  cases fl with
  | true => rfl
  | false =>
    obtain ⟨G, hp, hq⟩ := h rfl
    rw [if_neg (by decide)]
    simp only [laws_stTerm.f, Option.bind_some]
    rw [if_pos (by decide), if_pos (by decide), if_pos (by decide)]
    unfold impl_TermHolds.f impl_TermsHold.f
    have k1 : okV (a : Int) b c p := by unfold okV; omega
    have k2 : okV (x : Int) y z q := by unfold okV; omega
    have e2 : okLB [[(⟨op, gv, a, b, c, p⟩ : S24)]] = true := okL_one _ (okTB_mk op gv a b c p ⟨G.op0, G.op8⟩ G.g0 hp)
    have e3 : okLB [[(⟨0, 3, x, y, z, q⟩ : S24)]] = true := okL_one _ (okTB_mk 0 3 x y z q (by decide) (by decide) (by omega))
    have own : holdsB (vOf x y z q r) pre [[(⟨0, 3, x, y, z, q⟩ : S24)]] = true := by
      rw [holds_one]
      refine equalI_self _ _ _ _ _ (verC_self _ _ rfl rfl rfl rfl) ?_
      show ((pre || !(bl q == [])) || (bl q == [])) = true
      cases pre <;> cases (bl q == []) <;> rfl
    have one : holdsB (vOf x y z q r) pre [[(⟨op, gv, a, b, c, p⟩ : S24)]] = termI op (vOf x y z q r) (vOf a b c p ⟨#[]⟩) (gv == 1) (decide (gv < 3)) (gv == 2) (pre || !(bl p == [])) := by
      rw [holds_one]; rfl
    have e4 : (p.toList != ([] : List UInt8)) = !(bl p == []) := by rw [toList_bl]; rfl
    have gg : (0 ≤ op ∧ op < 8) ∧ 0 ≤ gv ∧ okV (a : Int) b c p ∧ okV (x : Int) y z q := ⟨⟨G.op0, G.op8⟩, G.g0, k1, k2⟩
    have g3 := And.intro e3 k2
    rw [if_pos ⟨e2, k2⟩, Option.bind_some, own, one, e4]
    cases pre with
    | true =>
      rw [if_pos rfl, if_pos gg, if_pos g3]
      simp
    | false =>
      rw [if_neg (by decide), if_pos gg, if_pos g3]
      simp

theorem to_j0 (k : Nat) (fl pre : Bool) (op gv : Int) (a b c : Nat) (p : ByteArray) (x y z : Nat) (q r : ByteArray) (hp : fl = false → p.size ≤ 2147483647) (hk : 10000000000 ≤ k) :
    laws_FnSemverTermsOne.j0 (k + 2) pre fl op gv a b c p x y z q r = some true := by
  simp only [laws_FnSemverTermsOne.j0]
  cases fl with
  | true => rfl
  | false =>
    have hp := hp rfl
    rw [if_neg (by decide)]
    obtain ⟨t, ht, hg⟩ := goodTerm_f (k + 1) op gv a b c p hp (by omega)
    rw [ht, Option.bind_some]
    cases t with
    | false => exact to_j1 k true pre op gv a b c p x y z q r (by simp)
    | true =>
      rw [if_pos rfl, svGood_k _ (by simp) _ (by simp; omega), Option.bind_some]
      refine to_j1 k _ pre op gv a b c p x y z q r (fun e => ⟨hg rfl, hp, ?_⟩)
      simp only [List.all_cons, List.all_nil, Bool.and_true, Bool.not_eq_false'] at e
      exact (good_parts e).1

theorem pure_TermsOne (op gv : Int) (a b c : Nat) (p : ByteArray) (x0 x1 x2 : Nat) (xp xm : ByteArray) (pre : Bool) (_ : -9223372036854775808 ≤ op ∧ op ≤ 9223372036854775807) (_ : -9223372036854775808 ≤ gv ∧ gv ≤ 9223372036854775807) (_ : a ≤ 18446744073709551615) (_ : b ≤ 18446744073709551615) (_ : c ≤ 18446744073709551615) (_ : x0 ≤ 18446744073709551615) (_ : x1 ≤ 18446744073709551615) (_ : x2 ≤ 18446744073709551615) :
    ∃ k, laws_FnSemverTermsOne.f k op gv a b c p x0 x1 x2 xp xm pre = some true := by
  refine ⟨10000000002, ?_⟩
  unfold laws_FnSemverTermsOne.f
  rw [fits13_f, Option.bind_some]
  split
  · rename_i h
    rw [fits14_f, Option.bind_some]
    exact to_j0 10000000000 _ pre op gv a b c p x0 x1 x2 xp xm (fun _ => by simpa using h) (by omega)
  · exact to_j0 10000000000 _ pre op gv a b c p x0 x1 x2 xp xm (by simp) (by omega)

end Go.Proofs.YtllkoadcpobdaaaDoor.KX
