/- The row and the tied card of FnSemverTermHolds, out of its printed walk and its plain law. For every input that the statement lets in. -/
import Derived.Test.YtllkoadcpobdaaaDoorZCardSemverTermHolds17
import Derived.Test.YtllkoadcpobdaaaDoorZCardSemverTermHolds21
namespace Go.Proofs.YtllkoadcpobdaaaDoor.L
end Go.Proofs.YtllkoadcpobdaaaDoor.L
namespace Go.Proofs.YtllkoadcpobdaaaDoor.Parse
end Go.Proofs.YtllkoadcpobdaaaDoor.Parse
namespace Go.Proofs.YtllkoadcpobdaaaDoor.Part
end Go.Proofs.YtllkoadcpobdaaaDoor.Part
namespace Go.Proofs.YtllkoadcpobdaaaDoor.Num

open Go Go.RowKit Go.Lib Go.Proofs.YtllkoadcpobdaaaDoor.L Go.Proofs.YtllkoadcpobdaaaDoor.Parse Go.Proofs.YtllkoadcpobdaaaDoor.Part

theorem valF_add (l : List UInt8) : ∀ a, valF a l = a * 10 ^ l.length + valF 0 l := by
  induction l with
  | nil => intro a; simp [valF]
  | cons c r ih =>
    intro a
    have h1 : valF a (c :: r) = valF (step a c) r := rfl
    have h2 : valF 0 (c :: r) = valF (step 0 c) r := rfl
    rw [h1, h2, ih (step a c), ih (step 0 c), List.length_cons, Nat.pow_succ]
    unfold step
    rw [Nat.add_mul, Nat.zero_mul, Nat.zero_add, Nat.mul_assoc, Nat.mul_comm 10 (10 ^ r.length)]
    omega

theorem valF_lt (l : List UInt8) (h : l.all isDig = true) : valF 0 l < 10 ^ l.length := by
  induction l with
  | nil => simp [valF]
  | cons c r ih =>
    rw [List.all_cons, Bool.and_eq_true] at h
    have hc := (dig_iff c).1 h.1
    have h2 : valF 0 (c :: r) = valF (step 0 c) r := rfl
    have := ih h.2
    rw [h2, valF_add, List.length_cons, Nat.pow_succ]
    have h3 : step 0 c ≤ 9 := by unfold step; omega
    have h4 : step 0 c * 10 ^ r.length ≤ 9 * 10 ^ r.length := Nat.mul_le_mul_right _ h3
    omega

theorem valF_ge (c : UInt8) (r : List UInt8) (h : isDig c = true) (hz : c ≠ 48) : 10 ^ r.length ≤ valF 0 (c :: r) := by
  have hc := (dig_iff c).1 h
  have h2 : valF 0 (c :: r) = valF (step 0 c) r := rfl
  rw [h2, valF_add]
  have h3 : 1 ≤ step 0 c := by
    unfold step
    have : c.toNat ≠ 48 := fun e => hz (UInt8.toNat_inj.1 e)
    omega
  have h4 : 1 * 10 ^ r.length ≤ step 0 c * 10 ^ r.length := Nat.mul_le_mul_right _ h3
  omega

theorem less_val : ∀ (l m : List UInt8), l.length = m.length → l.all isDig = true → m.all isDig = true → (Op.bytesLess l m = true ↔ valF 0 l < valF 0 m)
  | [], [], _, _, _ => by simp [Op.bytesLess, valF]
  | [], _ :: _, h, _, _ => by simp at h
  | _ :: _, [], h, _, _ => by simp at h
  | a :: x, b :: y, h, ha, hb => by
    rw [List.all_cons, Bool.and_eq_true] at ha hb
    have hl : x.length = y.length := by simpa using h
    have ih := less_val x y hl ha.2 hb.2
    have h1 := (dig_iff a).1 ha.1
    have h2 := (dig_iff b).1 hb.1
    have vx := valF_lt x ha.2
    have vy := valF_lt y hb.2
    have e1 : valF 0 (a :: x) = valF (step 0 a) x := rfl
    have e2 : valF 0 (b :: y) = valF (step 0 b) y := rfl
    rw [e1, e2, valF_add x, valF_add y, ← hl]
    rw [← hl] at vy
    unfold Op.bytesLess step
    rw [Bool.or_eq_true, Bool.and_eq_true, decide_eq_true_eq, beq_iff_eq, UInt8.lt_iff_toNat_lt, ih]
    generalize 10 ^ x.length = P at *
    generalize valF 0 x = X at *
    generalize valF 0 y = Y at *
    have ea : a = b ↔ a.toNat = b.toNat := UInt8.toNat_inj.symm
    rw [ea]
    obtain ⟨A, hA⟩ : ∃ A, a.toNat = 48 + A := ⟨a.toNat - 48, by omega⟩
    obtain ⟨B, hB⟩ : ∃ B, b.toNat = 48 + B := ⟨b.toNat - 48, by omega⟩
    rw [hA, hB, show 0 * 10 + (48 + A - 48) = A by omega, show 0 * 10 + (48 + B - 48) = B by omega]
    constructor
    · rintro (h | ⟨h, h'⟩)
      · have : (A + 1) * P ≤ B * P := Nat.mul_le_mul_right _ (by omega)
        rw [Nat.add_mul, Nat.one_mul] at this
        omega
      · obtain rfl : A = B := by omega
        omega
    · intro h
      rcases Nat.lt_trichotomy A B with q | q | q
      · exact .inl (by omega)
      · subst q; exact .inr ⟨rfl, by omega⟩
      · exfalso
        have : (B + 1) * P ≤ A * P := Nat.mul_le_mul_right _ (by omega)
        rw [Nat.add_mul, Nat.one_mul] at this
        omega

theorem val_inj : ∀ (a b : List UInt8), a.length = b.length → a.all isDig = true → b.all isDig = true → valF 0 a = valF 0 b → a = b
  | [], [], _, _, _, _ => rfl
  | [], _ :: _, h, _, _, _ => by simp at h
  | _ :: _, [], h, _, _, _ => by simp at h
  | a :: x, b :: y, h, ha, hb, hv => by
    have hl : x.length = y.length := by simpa using h
    have g1 := less_val (a :: x) (b :: y) h ha hb
    have g2 := less_val (b :: y) (a :: x) h.symm hb ha
    rw [List.all_cons, Bool.and_eq_true] at ha hb
    have n1 : ¬ Op.bytesLess (a :: x) (b :: y) = true := fun z => by have := g1.1 z; omega
    have n2 : ¬ Op.bytesLess (b :: y) (a :: x) = true := fun z => by have := g2.1 z; omega
    have hab : a = b := by
      unfold Op.bytesLess at n1 n2
      rw [Bool.or_eq_true, not_or, decide_eq_true_eq, UInt8.lt_iff_toNat_lt] at n1 n2
      apply UInt8.toNat_inj.1
      omega
    subst hab
    have e1 : valF 0 (a :: x) = valF (step 0 a) x := rfl
    have e2 : valF 0 (a :: y) = valF (step 0 a) y := rfl
    rw [e1, e2, valF_add x, valF_add y, hl] at hv
    rw [val_inj x y hl ha.2 hb.2 (by omega)]

/-- An identifier of digits alone. -/
def digP (l : List UInt8) : Bool := l.all isDig && !(l == [])

/-- A good identifier: valid, without a leading zero, and small if it's a number. -/
def goodP (p : List UInt8) : Bool := (metaP p && !zeroP p) && !(p.all isDig && !(p == []) && decide (19 < p.length))

/-- The documented comparison of identifiers. -/
def specPart (a b : List UInt8) : Int :=
  if a = b then 0 else if (digP a && digP b && a.length != b.length) = true then (if a.length < b.length then -1 else 1)
  else if (digP a != digP b) = true then (if digP a = true then -1 else 1) else if Op.bytesLess a b = true then -1 else 1

theorem num_small (l : List UInt8) (h : digP l = true) (hl : l.length ≤ 19) : num l = some (valF 0 l) := by
  unfold digP at h
  rw [Bool.and_eq_true, Bool.not_eq_true', beq_eq_false_iff_ne] at h
  have := valF_lt l h.1
  have h2 : 10 ^ l.length ≤ 10 ^ 19 := Nat.pow_le_pow_right (by omega) hl
  rw [num_eq, if_pos ⟨⟨h.2, h.1⟩, by unfold top; omega⟩]

theorem num_other (l : List UInt8) (h : digP l = false) : num l = none := by
  unfold digP at h
  by_cases e : l.all isDig = true
  · rw [e, Bool.true_and, Bool.not_eq_false', beq_iff_eq] at h
    rw [num_eq, if_neg (fun q => q.1.1 h)]
  · exact num_none l (by simpa using e)

theorem goodP_parts {p : List UInt8} (h : goodP p = true) : p ≠ [] ∧ (digP p = true → p.length ≤ 19 ∧ (1 < p.length → p.headD 0 ≠ 48)) := by
  unfold goodP metaP zeroP at h
  simp only [Bool.and_eq_true, Bool.not_eq_true', beq_eq_false_iff_ne] at h
  obtain ⟨⟨⟨h1, h2⟩, h3⟩, h4⟩ := h
  refine ⟨h1, fun hd => ?_⟩
  unfold digP at hd
  rw [hd, Bool.true_and] at h3 h4
  rw [decide_eq_false_iff_not] at h4
  refine ⟨by omega, fun h5 h6 => ?_⟩
  rw [decide_eq_true h5, Bool.true_and, beq_eq_false_iff_ne] at h3
  exact h3 h6

theorem short_less (a b : List UInt8) (ha : goodP a = true) (hb : goodP b = true) (da : digP a = true) (db : digP b = true) (h : a.length < b.length) : valF 0 a < valF 0 b := by
  obtain ⟨na, ga⟩ := goodP_parts ha
  obtain ⟨nb, gb⟩ := goodP_parts hb
  have la : 0 < a.length := by cases a with | nil => exact absurd rfl na | cons => simp
  have hz := (gb db).2 (by omega)
  cases b with
  | nil => exact absurd rfl nb
  | cons c r =>
    unfold digP at da db
    rw [Bool.and_eq_true, List.all_cons, Bool.and_eq_true] at db
    rw [Bool.and_eq_true] at da
    have h1 := valF_ge c r db.1.1 hz
    have h2 := valF_lt a da.1
    have h3 : 10 ^ a.length ≤ 10 ^ r.length := Nat.pow_le_pow_right (by omega) (by simp at h; omega)
    omega

theorem specPart_eq (a b : List UInt8) (ha : goodP a = true) (hb : goodP b = true) : specPart a b = cpp a b := by
  obtain ⟨na, ga⟩ := goodP_parts ha
  obtain ⟨nb, gb⟩ := goodP_parts hb
  unfold specPart cpp
  by_cases e : a = b
  · rw [if_pos e, if_pos e]
  · rw [if_neg e, if_neg e, if_neg na, if_neg nb]
    cases da : digP a
    · rw [num_other a da]
      cases db : digP b
      · rw [num_other b db]
        simp
      · rw [num_small b db (gb db).1]
        simp
    · rw [num_small a da (ga da).1]
      cases db : digP b
      · rw [num_other b db]
        simp
      · rw [num_small b db (gb db).1]
        simp only [Bool.true_and, bne_self_eq_false, Bool.false_eq_true, if_false]
        by_cases hl : a.length = b.length
        · have : (a.length != b.length) = false := by rw [hl]; exact bne_self_eq_false _
          rw [this, if_neg (by decide)]
          have d1 := da
          have d2 := db
          unfold digP at d1 d2
          rw [Bool.and_eq_true] at d1 d2
          have h1 := less_val a b hl d1.1 d2.1
          have h2 := less_val b a hl.symm d2.1 d1.1
          by_cases q : Op.bytesLess a b = true
          · rw [if_pos q]
            have := h1.1 q
            rw [if_neg (by omega)]
          · rw [if_neg q]
            have q2 : ¬ valF 0 a < valF 0 b := fun z => q (h1.2 z)
            have q3 : valF 0 a ≠ valF 0 b := by
              intro z
              exact e (val_inj a b hl d1.1 d2.1 z)
            rw [if_pos (by omega)]
        · have : (a.length != b.length) = true := bne_iff_ne.2 hl
          rw [this, if_pos rfl]
          by_cases q : a.length < b.length
          · have := short_less a b ha hb da db q
            rw [if_pos q, if_neg (by omega)]
          · have := short_less b a hb ha db da (by omega)
            rw [if_neg q, if_pos this]

end Go.Proofs.YtllkoadcpobdaaaDoor.Num
