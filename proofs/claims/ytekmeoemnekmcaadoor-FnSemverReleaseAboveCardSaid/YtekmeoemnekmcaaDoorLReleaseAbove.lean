/- The statement FnSemverReleaseAbove: a release is above each of its prereleases, and below each prerelease of the next patch. For all inputs. -/
import Derived.Test.YtekmeoemnekmcaaDoorPXx2
import Derived.Test.YtekmeoemnekmcaaDoorPXx3
import Derived.Test.YtekmeoemnekmcaaDoorKGoodX
import Derived.Test.YtekmeoemnekmcaaDoorVOfX
namespace Go.Proofs.YtekmeoemnekmcaaDoor.KX
open Go.RowKit Go.Lib Go.Proofs Go.Proofs.YtekmeoemnekmcaaDoor.Base Go.Proofs.YtekmeoemnekmcaaDoor.L Go.Proofs.YtekmeoemnekmcaaDoor.Bt Go.Proofs.YtekmeoemnekmcaaDoor.Parse Go.Proofs.YtekmeoemnekmcaaDoor.PX
open Go.Proofs.YtekmeoemnekmcaaDoorW.PrintWords Go.Proofs.YtekmeoemnekmcaaDoorW.PrintLast Go.Proofs.YtekmeoemnekmcaaDoorW.PrintMore

theorem segC_self (a : Nat) : segC a a = 0 := by simp [segC]
theorem above_pre (a b c : Nat) (pre m n : ByteArray) (h : bl pre ≠ []) : verC ⟨a, b, c, ⟨#[]⟩, m, ⟨#[]⟩⟩ ⟨a, b, c, pre, n, ⟨#[]⟩⟩ = 1 := by
  unfold verC
  simp only [segC_self, ne_eq, not_true_eq_false, if_false]
  unfold preAny
  rw [if_pos (by rfl), if_neg h]
theorem below_next (a b c : Nat) (p q m n : ByteArray) : verC ⟨a, b, c, p, m, ⟨#[]⟩⟩ ⟨a, b, c + 1, q, n, ⟨#[]⟩⟩ = -1 := by
  have h : segC c (c + 1) = -1 := by simp [segC]
  unfold verC
  simp only [segC_self, h, ne_eq, not_true_eq_false, if_false]
  rfl
theorem ra_j1 (a b c : Nat) (pre next : ByteArray) (fl : Bool) (x : Int) (h : fl = false → bl pre ≠ [] ∧ pre.size ≤ 1000000000 ∧ next.size ≤ 1000000000 ∧ x = ((c + 1 : Nat) : Int)) (k : Nat) :
    laws_FnSemverReleaseAbove.j1 (k + 1) pre fl a b c ⟨#[]⟩ ⟨#[]⟩ a b x next ⟨#[]⟩ = some true := by
  simp only [laws_FnSemverReleaseAbove.j1]
  cases fl with
  | true => rfl
  | false =>
    obtain ⟨h1, h2, h3, rfl⟩ := h rfl
    rw [if_neg (by decide)]
    simp only [laws_svPre.f, Option.bind_some, impl_VersionGreater.f, impl_VersionLess.f]
    have e : (⟨#[]⟩ : ByteArray).size = 0 := rfl
    have g1 : okV (a : Int) b c (⟨#[]⟩ : ByteArray) := by unfold okV; omega
    have g2 : okV (a : Int) b c pre := by unfold okV; omega
    have g3 : okV (a : Int) b ((c + 1 : Nat) : Int) next := by unfold okV; omega
    rw [if_pos ⟨g1, g2⟩, if_pos ⟨g1, g3⟩]
    have e1 : verC (vOf a b c ⟨#[]⟩ ⟨#[]⟩) (vOf a b c pre ⟨#[]⟩) = 1 := above_pre a b c pre _ _ h1
    have e2 : verC (vOf a b c ⟨#[]⟩ ⟨#[]⟩) (vOf a b ((c + 1 : Nat) : Int) next ⟨#[]⟩) = -1 := below_next a b c _ _ _ _
    rw [e1, e2]
    rfl
theorem ra_j0 (a b c : Nat) (hc : c ≤ 18446744073709551615) (p m pre next : ByteArray) (fl : Bool) (k : Nat) (hk : 140010 ≤ k) :
    laws_FnSemverReleaseAbove.j0 (k + 2) pre next fl a b c p m = some true := by
  simp only [laws_FnSemverReleaseAbove.j0]
  cases fl with
  | true => rfl
  | false =>
    rw [if_neg (by decide)]
    simp only [spec_Bare.f, Option.bind_some]
    rw [toList_bl, toList_bl]
    by_cases h1 : bl pre = []
    · rw [if_pos h1]; exact ra_j1 a b c pre next true _ (by simp) k
    · rw [if_neg h1]
      by_cases h2 : bl next = []
      · rw [if_pos h2]; exact ra_j1 a b c pre next true _ (by simp) k
      · rw [if_neg h2]
        simp only [laws_svPre.f, Option.bind_some]
        rw [svGood_k _ (by simp) _ (by simp; omega), Option.bind_some]
        split
        · rename_i hg
          simp only [List.all_cons, List.all_nil, Bool.and_true, Bool.and_eq_true, goodS, decide_eq_true_eq] at hg
          refine ra_j1 a b c pre next _ _ (fun hf => ⟨h1, by omega, by omega, ?_⟩) k
          have hf' := beq_eq_false_iff_ne.1 hf
          rw [IntKind.wrap_u64] at hf' ⊢
          omega
        · exact ra_j1 a b c pre next true _ (by simp) k
theorem release_pure (a b c : Nat) (hc : c ≤ 18446744073709551615) (p m pre next : ByteArray) : laws_FnSemverReleaseAbove.f 140012 a b c p m pre next = some true := by
  unfold laws_FnSemverReleaseAbove.f
  rw [fits14_f, Option.bind_some]
  split
  · split
    · exact ra_j0 a b c hc p m pre next _ 140010 (by omega)
    · exact ra_j0 a b c hc p m pre next _ 140010 (by omega)
  · exact ra_j0 a b c hc p m pre next _ 140010 (by omega)
theorem pure_ReleaseAbove (a b c : Nat) (p m pre next : ByteArray) (_ : a ≤ 18446744073709551615) (_ : b ≤ 18446744073709551615) (hc : c ≤ 18446744073709551615) : ∃ k, laws_FnSemverReleaseAbove.f k a b c p m pre next = some true :=
  ⟨_, release_pure a b c hc p m pre next⟩
end Go.Proofs.YtekmeoemnekmcaaDoor.KX
