/- The row and the tied card of FnSemverApart, out of its printed walk and its plain law. For every input that the statement lets in. -/
import Derived.Test.YtllkoadcpobdaaaDoorZCardSemverApart29
import Derived.OpenShut
namespace Go.Proofs.YtllkoadcpobdaaaDoor.Bt
end Go.Proofs.YtllkoadcpobdaaaDoor.Bt
namespace Go.Proofs.YtllkoadcpobdaaaDoor.KX
end Go.Proofs.YtllkoadcpobdaaaDoor.KX
namespace Go.Proofs.YtllkoadcpobdaaaDoor.L
end Go.Proofs.YtllkoadcpobdaaaDoor.L
namespace Go.Proofs.YtllkoadcpobdaaaDoor.PX

open Go Go.Proofs Go.RowKit Go.Lib Go.Proofs.YtllkoadcpobdaaaDoor Go.Proofs.YtllkoadcpobdaaaDoor.L Go.Proofs.YtllkoadcpobdaaaDoor.Bt Go.Proofs.YtllkoadcpobdaaaDoor.KX

open Go.Proofs.YtllkoadcpobdaaaDoorW.PrintWords Go.Proofs.YtllkoadcpobdaaaDoorW.PrintLast Go.Proofs.YtllkoadcpobdaaaDoorW.PrintMore

def u64T (x : S24) : Bool := decide ((0 ≤ x.f2 ∧ x.f2 < 18446744073709551616) ∧ (0 ≤ x.f3 ∧ x.f3 < 18446744073709551616) ∧ (0 ≤ x.f4 ∧ x.f4 < 18446744073709551616))

def u64L (l : List (List S24)) : Bool := l.all (fun r => r.all u64T)

theorem u64L_ok {l : List (List S24)} (h : u64L l = true) : ∀ r ∈ l, ∀ t ∈ r, OkP t := fun r hr t ht => by
  have h1 := List.all_eq_true.1 (List.all_eq_true.1 h r hr) t ht
  unfold u64T at h1
  rw [decide_eq_true_eq] at h1
  exact ⟨h1.1, h1.2.1, h1.2.2⟩

def u64X (x : Int) : Prop := 0 ≤ x ∧ x < 18446744073709551616

instance (x : Int) : Decidable (u64X x) := by unfold u64X; infer_instance

def laws_FnSemverApart.f (l0 l1 : List (List S24)) (x0 x1 x2 : Int) (_ _ : ByteArray) : Option Bool := if u64L l0 = true ∧ u64L l1 = true ∧ u64X x0 ∧ u64X x1 ∧ u64X x2 then some true else none

theorem laws_FnSemverApart.calls (A0 : Option Addr) (c0 : Nat) (l0 : List (List S24)) (A1 : Option Addr) (c1 : Nat) (l1 : List (List S24)) (x0 x1 x2 : Int) (xp xm : ByteArray) (r : Bool) (w : World) (hC0 : Kd.C (Kd.slice 24 k24) w A0 l0.length l0) (hc0 : l0.length ≤ c0) (hC1 : Kd.C (Kd.slice 24 k24) w A1 l1.length l1) (hc1 : l1.length ≤ c1) (hStd : Std w) (h : laws_FnSemverApart.f l0 l1 x0 x1 x2 xp xm = some r) :
    Calls Tryd.prog 11 #[.slice A0 l0.length c0, .slice A1 l1.length c1, .agg #[.int .u64 x0, .int .u64 x1, .int .u64 x2, .string xp, .string xm]] w fun e w' => e = .returned (.bool r) ∧ Below w.heap.size w w' := by
  unfold laws_FnSemverApart.f at h
  by_cases hk : u64L l0 = true ∧ u64L l1 = true ∧ u64X x0 ∧ u64X x1 ∧ u64X x2
  · rw [if_pos hk] at h
    cases h
    obtain ⟨h0, h1, z0, z1, z2⟩ := hk
    obtain ⟨x0, rfl⟩ := Int.eq_ofNat_of_zero_le z0.1
    obtain ⟨x1, rfl⟩ := Int.eq_ofNat_of_zero_le z1.1
    obtain ⟨x2, rfl⟩ := Int.eq_ofNat_of_zero_le z2.1
    have hn : ∀ p ∈ l0 ++ l1, ∀ t ∈ p, OkP t := fun p hp => (List.mem_append.1 hp).elim (u64L_ok h0 p) (u64L_ok h1 p)
    refine apart_walk l0 l1 A0 A1 c0 c1 x0 x1 x2 xp xm hc0 hc1 hn (fun f1 f2 g1 g2 he => apart_pure l0 l1 (x0, x1, x2) ⟨?_, ?_, ?_⟩ hn f1 f2 g1 g2 he) w hC0 hC1 hStd
    · have := z0.2; show x0 < _; omega
    · have := z1.2; show x1 < _; omega
    · have := z2.2; show x2 < _; omega
  · rw [if_neg hk] at h
    cases h

theorem pure_Apart (l0 l1 : List (List S24)) (x0 x1 x2 : Nat) (xp xm : ByteArray)
    (h0 : (∀ r ∈ l0, (∀ x ∈ r, (Lit.int .i64 x.f0).wf = true ∧ (Lit.int .i64 x.f1).wf = true ∧ (Lit.int .u64 x.f2).wf = true ∧ (Lit.int .u64 x.f3).wf = true ∧ (Lit.int .u64 x.f4).wf = true ∧ True) ∧ r.length ≤ maxLen) ∧ l0.length ≤ maxLen)
    (h1 : (∀ r ∈ l1, (∀ x ∈ r, (Lit.int .i64 x.f0).wf = true ∧ (Lit.int .i64 x.f1).wf = true ∧ (Lit.int .u64 x.f2).wf = true ∧ (Lit.int .u64 x.f3).wf = true ∧ (Lit.int .u64 x.f4).wf = true ∧ True) ∧ r.length ≤ maxLen) ∧ l1.length ≤ maxLen)
    (b0 : x0 ≤ 18446744073709551615) (b1 : x1 ≤ 18446744073709551615) (b2 : x2 ≤ 18446744073709551615) : laws_FnSemverApart.f l0 l1 x0 x1 x2 xp xm = some true := by
  have hu : ∀ l : List (List S24), (∀ r ∈ l, (∀ x ∈ r, (Lit.int .i64 x.f0).wf = true ∧ (Lit.int .i64 x.f1).wf = true ∧ (Lit.int .u64 x.f2).wf = true ∧ (Lit.int .u64 x.f3).wf = true ∧ (Lit.int .u64 x.f4).wf = true ∧ True) ∧ r.length ≤ maxLen) → u64L l = true := by
    intro l hl
    unfold u64L
    rw [List.all_eq_true]
    intro r hr
    rw [List.all_eq_true]
    intro x hx
    obtain ⟨_, _, q2, q3, q4, _⟩ := (hl r hr).1 x hx
    have e2 := bounds_u64 q2; have e3 := bounds_u64 q3; have e4 := bounds_u64 q4
    unfold u64T
    rw [decide_eq_true_eq]
    omega
  unfold laws_FnSemverApart.f
  rw [if_pos]
  exact ⟨hu l0 h0.1, hu l1 h1.1, by unfold u64X; omega, by unfold u64X; omega, by unfold u64X; omega⟩

end Go.Proofs.YtllkoadcpobdaaaDoor.PX
