/- The row and the tied card of FnSemverApart, out of its printed walk and its plain law. For every input that the statement lets in. -/
import Derived.Test.YtllkoadcpobdaaaDoorZCardSemverApart18
import Derived.Test.YtllkoadcpobdaaaDoorZCardSemverApart22
namespace Go.Proofs.YtllkoadcpobdaaaDoor.L
end Go.Proofs.YtllkoadcpobdaaaDoor.L
namespace Go.Proofs.YtllkoadcpobdaaaDoor.Parse
end Go.Proofs.YtllkoadcpobdaaaDoor.Parse
namespace Go.Proofs.YtllkoadcpobdaaaDoor.Part
end Go.Proofs.YtllkoadcpobdaaaDoor.Part
namespace Go.Proofs.YtllkoadcpobdaaaDoor.Num

open Go Go.RowKit Go.Lib Go.Proofs.YtllkoadcpobdaaaDoor.L Go.Proofs.YtllkoadcpobdaaaDoor.Parse Go.Proofs.YtllkoadcpobdaaaDoor.Part

theorem valF_add (l : List UInt8) : ∀ a, valF a l = a * 10 ^ l.length + valF 0 l := by
  induction l with
  | nil => intro a; simp [valF]
  | cons c r ih =>
    intro a
    have h1 : valF a (c :: r) = valF (step a c) r := rfl
    have h2 : valF 0 (c :: r) = valF (step 0 c) r := rfl
    rw [h1, h2, ih (step a c), ih (step 0 c), List.length_cons, Nat.pow_succ]
    unfold step
    rw [Nat.add_mul, Nat.zero_mul, Nat.zero_add, Nat.mul_assoc, Nat.mul_comm 10 (10 ^ r.length)]
    omega

theorem valF_lt (l : List UInt8) (h : l.all isDig = true) : valF 0 l < 10 ^ l.length := by
  induction l with
  | nil => simp [valF]
  | cons c r ih =>
    rw [List.all_cons, Bool.and_eq_true] at h
    have hc := (dig_iff c).1 h.1
    have h2 : valF 0 (c :: r) = valF (step 0 c) r := rfl
    have := ih h.2
    rw [h2, valF_add, List.length_cons, Nat.pow_succ]
    have h3 : step 0 c ≤ 9 := by unfold step; omega
    have h4 : step 0 c * 10 ^ r.length ≤ 9 * 10 ^ r.length := Nat.mul_le_mul_right _ h3
    omega

theorem valF_ge (c : UInt8) (r : List UInt8) (h : isDig c = true) (hz : c ≠ 48) : 10 ^ r.length ≤ valF 0 (c :: r) := by
  have hc := (dig_iff c).1 h
  have h2 : valF 0 (c :: r) = valF (step 0 c) r := rfl
  rw [h2, valF_add]
  have h3 : 1 ≤ step 0 c := by
    unfold step
    have : c.toNat ≠ 48 := fun e => hz (UInt8.toNat_inj.1 e)
    omega
  have h4 : 1 * 10 ^ r.length ≤ step 0 c * 10 ^ r.length := Nat.mul_le_mul_right _ h3
  omega

/-- An identifier of digits alone. -/
def digP (l : List UInt8) : Bool := l.all isDig && !(l == [])

/-- A good identifier: valid, without a leading zero, and small if it's a number. -/
def goodP (p : List UInt8) : Bool := (metaP p && !zeroP p) && !(p.all isDig && !(p == []) && decide (19 < p.length))

theorem num_small (l : List UInt8) (h : digP l = true) (hl : l.length ≤ 19) : num l = some (valF 0 l) := by
  unfold digP at h
  rw [Bool.and_eq_true, Bool.not_eq_true', beq_eq_false_iff_ne] at h
  have := valF_lt l h.1
  have h2 : 10 ^ l.length ≤ 10 ^ 19 := Nat.pow_le_pow_right (by omega) hl
  rw [num_eq, if_pos ⟨⟨h.2, h.1⟩, by unfold top; omega⟩]

theorem num_other (l : List UInt8) (h : digP l = false) : num l = none := by
  unfold digP at h
  by_cases e : l.all isDig = true
  · rw [e, Bool.true_and, Bool.not_eq_false', beq_iff_eq] at h
    rw [num_eq, if_neg (fun q => q.1.1 h)]
  · exact num_none l (by simpa using e)

theorem goodP_parts {p : List UInt8} (h : goodP p = true) : p ≠ [] ∧ (digP p = true → p.length ≤ 19 ∧ (1 < p.length → p.headD 0 ≠ 48)) := by
  unfold goodP metaP zeroP at h
  simp only [Bool.and_eq_true, Bool.not_eq_true', beq_eq_false_iff_ne] at h
  obtain ⟨⟨⟨h1, h2⟩, h3⟩, h4⟩ := h
  refine ⟨h1, fun hd => ?_⟩
  unfold digP at hd
  rw [hd, Bool.true_and] at h3 h4
  rw [decide_eq_false_iff_not] at h4
  refine ⟨by omega, fun h5 h6 => ?_⟩
  rw [decide_eq_true h5, Bool.true_and, beq_eq_false_iff_ne] at h3
  exact h3 h6

end Go.Proofs.YtllkoadcpobdaaaDoor.Num
