/- The row and the tied card of FnSemverTermsNamed, out of its printed walk and its plain law. For every input that the statement lets in. -/
import Derived.Test.YtllkoadcpobdaaaDoorZCardSemverTermsNamed29
import Derived.OpenShut
namespace Go.Proofs.YtllkoadcpobdaaaDoor.Bt
end Go.Proofs.YtllkoadcpobdaaaDoor.Bt
namespace Go.Proofs.YtllkoadcpobdaaaDoor.KX
end Go.Proofs.YtllkoadcpobdaaaDoor.KX
namespace Go.Proofs.YtllkoadcpobdaaaDoor.L
end Go.Proofs.YtllkoadcpobdaaaDoor.L
namespace Go.Proofs.YtllkoadcpobdaaaDoor.PX

open Go Go.Proofs Go.RowKit Go.Lib Go.Proofs.YtllkoadcpobdaaaDoor Go.Proofs.YtllkoadcpobdaaaDoor.L Go.Proofs.YtllkoadcpobdaaaDoor.Bt Go.Proofs.YtllkoadcpobdaaaDoor.KX

open Go.Proofs.YtllkoadcpobdaaaDoorW.PrintWords Go.Proofs.YtllkoadcpobdaaaDoorW.PrintLast Go.Proofs.YtllkoadcpobdaaaDoorW.PrintMore

def numsB (l : List S24) : Bool := l.all (fun x => decide (0 ≤ x.f2 ∧ 0 ≤ x.f3 ∧ 0 ≤ x.f4))

def laws_FnSemverTermsNamed.f (_ : Nat) (l : List S24) (x0 x1 x2 : Int) (_ _ : ByteArray) : Option Bool := if numsB l = true ∧ 0 ≤ x0 ∧ 0 ≤ x1 ∧ 0 ≤ x2 then some true else none

theorem laws_FnSemverTermsNamed.calls (k : Nat) (A : Option Addr) (c : Nat) (l : List S24) (x0 x1 x2 : Int) (xp xm : ByteArray) (r : Bool) (w : World) (hC : Kd.C k24 w A l.length l) (hc : l.length ≤ c) (hStd : Std w) (h : laws_FnSemverTermsNamed.f k l x0 x1 x2 xp xm = some r) :
    Calls Tryd.prog 8 #[.slice A l.length c, .agg #[.int .u64 x0, .int .u64 x1, .int .u64 x2, .string xp, .string xm]] w fun e w' => e = .returned (.bool r) ∧ Below w.heap.size w w' := by
  unfold laws_FnSemverTermsNamed.f at h
  by_cases hk : numsB l = true ∧ 0 ≤ x0 ∧ 0 ≤ x1 ∧ 0 ≤ x2
  · rw [if_pos hk] at h
    cases h
    obtain ⟨h1, z0, z1, z2⟩ := hk
    obtain ⟨x0, rfl⟩ := Int.eq_ofNat_of_zero_le z0
    obtain ⟨x1, rfl⟩ := Int.eq_ofNat_of_zero_le z1
    obtain ⟨x2, rfl⟩ := Int.eq_ofNat_of_zero_le z2
    refine named_walk l A c x0 x1 x2 xp xm hc (fun x hx => ?_) w hC hStd
    have := List.all_eq_true.1 h1 x hx
    simpa using this
  · rw [if_neg hk] at h
    cases h

theorem pure_TermsNamed (l : List S24) (x0 x1 x2 : Nat) (xp xm : ByteArray) (hl : (∀ x ∈ l, (Lit.int .i64 x.f0).wf = true ∧ (Lit.int .i64 x.f1).wf = true ∧ (Lit.int .u64 x.f2).wf = true ∧ (Lit.int .u64 x.f3).wf = true ∧ (Lit.int .u64 x.f4).wf = true ∧ True) ∧ l.length ≤ maxLen) (_ : x0 ≤ 18446744073709551615) (_ : x1 ≤ 18446744073709551615) (_ : x2 ≤ 18446744073709551615) :
    ∃ k, laws_FnSemverTermsNamed.f k l x0 x1 x2 xp xm = some true := by
  refine ⟨0, ?_⟩
  unfold laws_FnSemverTermsNamed.f
  rw [if_pos]
  refine ⟨List.all_eq_true.2 (fun x hx => ?_), by omega, by omega, by omega⟩
  obtain ⟨_, _, h2, h3, h4, _⟩ := hl.1 x hx
  rw [decide_eq_true_eq]
  exact ⟨(bounds_u64 h2).1, (bounds_u64 h3).1, (bounds_u64 h4).1⟩

end Go.Proofs.YtllkoadcpobdaaaDoor.PX
