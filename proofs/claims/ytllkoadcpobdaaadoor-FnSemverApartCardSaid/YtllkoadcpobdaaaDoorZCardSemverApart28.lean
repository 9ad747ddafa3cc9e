/- The row and the tied card of FnSemverApart, out of its printed walk and its plain law. For every input that the statement lets in. -/
import Derived.Test.YtllkoadcpobdaaaDoorZCardSemverApart1
import Derived.Test.YtllkoadcpobdaaaDoorZCardSemverApart7
import Derived.Test.YtllkoadcpobdaaaDoorZCardSemverApart9
import Derived.Test.YtllkoadcpobdaaaDoorZCardSemverApart24
import Derived.Test.YtllkoadcpobdaaaDoorZCardSemverApart27
import Derived.Deep.RegionHeld3
import Derived.Deep.LoopGhost
import Derived.Deep.QuietTactic
import Derived.BigQuiet
import Derived.Lib.QuietBelow
namespace Go.Proofs.YtllkoadcpobdaaaDoor.Base
end Go.Proofs.YtllkoadcpobdaaaDoor.Base
namespace Go.Proofs.YtllkoadcpobdaaaDoor.Bt
end Go.Proofs.YtllkoadcpobdaaaDoor.Bt
namespace Go.Proofs.YtllkoadcpobdaaaDoor.L
end Go.Proofs.YtllkoadcpobdaaaDoor.L
namespace Go.Proofs.YtllkoadcpobdaaaDoor.PX
end Go.Proofs.YtllkoadcpobdaaaDoor.PX
namespace Go.Proofs.YtllkoadcpobdaaaDoor.Parse
end Go.Proofs.YtllkoadcpobdaaaDoor.Parse
namespace Go.Proofs.YtllkoadcpobdaaaDoor.Part
end Go.Proofs.YtllkoadcpobdaaaDoor.Part
namespace Go.Proofs.YtllkoadcpobdaaaDoor.KX

open Go Go.RowKit Go.Lib Go.Proofs Go.Proofs.YtllkoadcpobdaaaDoor.Base Go.Proofs.YtllkoadcpobdaaaDoor.L Go.Proofs.YtllkoadcpobdaaaDoor.Bt Go.Proofs.YtllkoadcpobdaaaDoor.Parse Go.Proofs.YtllkoadcpobdaaaDoor.PX

open Go.Proofs.YtllkoadcpobdaaaDoorW.PrintWords Go.Proofs.YtllkoadcpobdaaaDoorW.PrintLast Go.Proofs.YtllkoadcpobdaaaDoorW.PrintMore

theorem fits13_f (op gv a b c : Int) (p : ByteArray) : laws_zzFits13.f op gv a b c p = some (decide (p.size ≤ 2147483647)) := by
  unfold laws_zzFits13.f
  by_cases h1 : p.size ≤ 2147483647
  · rw [if_neg (by omega), decide_eq_true h1]
  · rw [if_pos (by omega), decide_eq_false h1]

theorem beqN (a b : Nat) : ((a : Int) == (b : Int)) = decide (a = b) := by
  rw [Bool.eq_iff_iff, beq_iff_eq, decide_eq_true_eq]; omega

theorem segB (a b : Nat) : (segC a b != 0) = !decide (a = b) := by
  rw [Bool.eq_iff_iff, bne_iff_ne, Bool.not_eq_true', decide_eq_false_iff_not, ne_eq, segC_zero]

/-- How a version stands to the numbers given. -/
def upperC (gv : Int) (v n : Ver) : Int := if gv = 3 then verC v n else numC gv v.ma v.mi v.pa n.ma n.mi n.pa

theorem numC_one (a b c a' b' c' : Nat) : numC 1 a b c a' b' c' = segC a a' := by
  unfold numC
  by_cases h : segC a a' = 0 <;> simp [h]

theorem numC_two (a b c a' b' c' : Nat) : numC 2 a b c a' b' c' = if segC a a' = 0 then segC b b' else segC a a' := by
  unfold numC
  by_cases h : segC a a' = 0 <;> by_cases h2 : segC b b' = 0 <;> simp [h, h2]

theorem notEqual_law (v n : Ver) (gv : Int) (pre : Bool) (h1 : 1 ≤ gv) (h3 : gv ≤ 3) (hp : gv < 3 → bl n.pre = []) (hs : gv = 3 ∨ bl v.pre = []) :
    notEqualB v n (gv == 1) (decide (gv < 3)) (gv == 2) pre = ((pre || (v.pre.toList == [])) && (upperC gv v n != 0)) := by
  unfold notEqualB upperC cNotEqual_r
  obtain rfl | rfl | rfl : gv = 1 ∨ gv = 2 ∨ gv = 3 := by omega
  · have e : (v.pre.toList == []) = true := by rw [toList_bl, beq_iff_eq]; rcases hs with h | h; · omega
                                               · exact h
    rw [e, if_neg (by decide), numC_one, segB, beqN]
    simp only [eq_comm]
    cases decide (v.ma = n.ma) <;> cases ((n.mi : Int) == (v.mi : Int)) <;> simp
  · have e : (v.pre.toList == []) = true := by rw [toList_bl, beq_iff_eq]; rcases hs with h | h; · omega
                                               · exact h
    have e2 : (n.pre.toList == []) = true := by rw [toList_bl, beq_iff_eq]; exact hp (by omega)
    have e3 : ((if segC v.ma n.ma = 0 then segC v.mi n.mi else segC v.ma n.ma) != 0) = !(decide (v.ma = n.ma) && decide (v.mi = n.mi)) := by
      by_cases q : v.ma = n.ma
      · rw [if_pos ((segC_zero _ _).2 q), segB, decide_eq_true q, Bool.true_and]
      · rw [if_neg (fun z => q ((segC_zero _ _).1 z)), segB, decide_eq_false q, Bool.false_and]
    rw [e, e2, if_neg (by decide), numC_two, e3, beqN, beqN, beqN]
    simp only [eq_comm]
    cases decide (v.ma = n.ma) <;> cases decide (v.mi = n.mi) <;> cases decide (v.pa = n.pa) <;> simp
  · rw [if_pos rfl, bne]
    cases (v.pre.toList == []) <;> cases pre <;> cases (verC v n == 0) <;> simp

end Go.Proofs.YtllkoadcpobdaaaDoor.KX
namespace Go.Proofs.YtllkoadcpobdaaaDoor.KX

open Go Go.RowKit Go.Lib Go.Proofs Go.Proofs.YtllkoadcpobdaaaDoor.Base Go.Proofs.YtllkoadcpobdaaaDoor.L Go.Proofs.YtllkoadcpobdaaaDoor.Bt Go.Proofs.YtllkoadcpobdaaaDoor.Parse Go.Proofs.YtllkoadcpobdaaaDoor.Part Go.Proofs.YtllkoadcpobdaaaDoor.PX

open Go.Proofs.YtllkoadcpobdaaaDoorW.PrintWords Go.Proofs.YtllkoadcpobdaaaDoorW.PrintLast Go.Proofs.YtllkoadcpobdaaaDoorW.PrintMore

theorem cpp_vals (a b : List UInt8) : cpp a b = -1 ∨ cpp a b = 0 ∨ cpp a b = 1 := by
  unfold cpp
  repeat' split
  all_goals simp

theorem cpl_vals (x y : List (List UInt8)) : cpl x y = -1 ∨ cpl x y = 0 ∨ cpl x y = 1 := by
  induction x, y using cpl.induct <;> unfold cpl <;> first | (simp; done) | (split <;> first | assumption | exact cpp_vals _ _ | contradiction)

theorem preAny_vals (a b : List UInt8) : preAny a b = -1 ∨ preAny a b = 0 ∨ preAny a b = 1 := by
  unfold preAny
  repeat' split
  · simp
  · simp
  · simp
  · exact cpl_vals _ _

theorem segC_vals (a b : Nat) : segC a b = -1 ∨ segC a b = 0 ∨ segC a b = 1 := by
  unfold segC
  repeat' split
  all_goals simp

theorem verC_vals (v n : Ver) : verC v n = -1 ∨ verC v n = 0 ∨ verC v n = 1 := by
  unfold verC
  repeat' split
  · exact segC_vals _ _
  · exact segC_vals _ _
  · exact segC_vals _ _
  · exact preAny_vals _ _

/-- How many numbers a caret holds fast. -/
def caretN (gv : Int) (a b c : Nat) : Int := if a ≠ 0 then 1 else if b ≠ 0 then 2 else if c ≠ 0 then 3 else gv

/-- How a version stands to a term, as documented. -/
def compB (op gv : Int) (v n : Ver) : Bool :=
  if op = 0 then (upperC gv v n == 0) && (decide (gv = 3) || decide (0 ≤ verC v n))
  else if op = 1 then upperC gv v n != 0
  else if op = 2 then decide (0 < upperC gv v n)
  else if op = 3 then decide (verC v n < 0)
  else if op = 4 then decide (0 ≤ verC v n)
  else if op = 5 then decide (upperC gv v n ≤ 0)
  else if op = 6 then decide (0 ≤ verC v n) && (numC (mn 2 gv) v.ma v.mi v.pa n.ma n.mi n.pa == 0)
  else decide (0 ≤ verC v n) && (numC (caretN gv n.ma n.mi n.pa) v.ma v.mi v.pa n.ma n.mi n.pa == 0)

theorem numC_zero (a b c a' b' c' : Nat) : numC 0 a b c a' b' c' = 0 := by unfold numC; simp

theorem numB_one (a b c a' b' c' : Nat) : (numC 1 a b c a' b' c' == 0) = decide (a = a') := by
  rw [numC_one, Bool.eq_iff_iff, beq_iff_eq, decide_eq_true_eq, segC_zero]

theorem numB_two (a b c a' b' c' : Nat) : (numC 2 a b c a' b' c' == 0) = (decide (a = a') && decide (b = b')) := by
  rw [numC_two, Bool.eq_iff_iff, beq_iff_eq, Bool.and_eq_true, decide_eq_true_eq, decide_eq_true_eq, ← segC_zero a, ← segC_zero b]
  by_cases h : segC a a' = 0 <;> simp [h]

theorem numC_three (a b c a' b' c' : Nat) : numC 3 a b c a' b' c' = if segC a a' = 0 then (if segC b b' = 0 then segC c c' else segC b b') else segC a a' := by
  unfold numC
  by_cases h : segC a a' = 0 <;> by_cases h2 : segC b b' = 0 <;> by_cases h3 : segC c c' = 0 <;> simp [h, h2, h3]

theorem numB_three (a b c a' b' c' : Nat) : (numC 3 a b c a' b' c' == 0) = (decide (a = a') && (decide (b = b') && decide (c = c'))) := by
  rw [numC_three, Bool.eq_iff_iff, beq_iff_eq, Bool.and_eq_true, Bool.and_eq_true, decide_eq_true_eq, decide_eq_true_eq, decide_eq_true_eq, ← segC_zero a, ← segC_zero b, ← segC_zero c]
  by_cases h : segC a a' = 0 <;> by_cases h2 : segC b b' = 0 <;> simp [h, h2]

theorem ltI (a b : Nat) : (decide ((a : Int) < (b : Int))) = decide (a < b) := decide_eq_decide.2 (by omega)

theorem gtI (a : Nat) : (decide ((0 : Int) < (a : Int))) = !decide (a = 0) := by
  rw [Bool.eq_iff_iff, Bool.not_eq_true', decide_eq_true_eq, decide_eq_false_iff_not]; omega

theorem preT {v : Ver} (h : bl v.pre = []) : (v.pre.toList == []) = true := by rw [toList_bl, h]; rfl

theorem tilde_zero (v n : Ver) (pre : Bool) (hv : (pre || (v.pre.toList == [])) = true) (h0 : n.ma = 0) (h1 : n.mi = 0) (h2 : n.pa = 0) :
    tildeB v n ((0 : Int) == 1) (decide ((0 : Int) < 3)) ((0 : Int) == 2) pre = decide (0 ≤ verC v n) := by
  unfold tildeB lessB cTilde_r
  have e : decide (verC v n < 0) = !decide (0 ≤ verC v n) := by
    rw [Bool.eq_iff_iff, Bool.not_eq_true', decide_eq_true_eq, decide_eq_false_iff_not]; omega
  rw [h0, h1, h2, e]
  generalize decide (0 ≤ verC v n) = L
  generalize (v.pre.toList == []) = q at *
  cases pre <;> cases q <;> cases L <;> simp at hv ⊢

theorem equal_l (v n : Ver) (gv : Int) (pre : Bool) (hv : (pre || (v.pre.toList == [])) = true) (g0 : 0 ≤ gv) (g3 : gv ≤ 3) (hpa : gv < 3 → n.pa = 0) (hmi : gv < 2 → n.mi = 0) (hma : gv < 1 → n.ma = 0) :
    equalB v n (gv == 1) (decide (gv < 3)) (gv == 2) pre = compB 0 gv v n := by
  unfold equalB compB cEqual_r upperC
  rw [if_pos rfl]
  have hb : ∀ x : Bool, (bif (v.pre.toList == []) then x else bif pre then x else false) = x := by
    intro x
    generalize (v.pre.toList == []) = q at *
    cases pre <;> cases q <;> simp at hv ⊢
  rw [hb]
  by_cases h3 : gv = 3
  · subst h3
    simp
  · rw [decide_eq_true (by omega : gv < 3), if_neg h3, decide_eq_false h3, Bool.false_or]
    simp only [cond_true]
    by_cases h1 : 1 ≤ gv
    · have := tilde_law v n gv pre h1 g3 (fun e => absurd e h3) hv
      rw [decide_eq_true (by omega : gv < 3)] at this
      rw [this]
      obtain rfl | rfl : gv = 1 ∨ gv = 2 := by omega
      · rw [numB_one]
        simp [Bool.and_comm]
      · rw [numB_two]
        simp [Bool.and_comm]
    · obtain rfl : gv = 0 := by omega
      have := tilde_zero v n pre hv (hma (by omega)) (hmi (by omega)) (hpa (by omega))
      rw [show decide ((0 : Int) < 3) = true from rfl] at this
      rw [this, numC_zero]
      simp

theorem above_l (v n : Ver) (gv : Int) (pre : Bool) (hv : (pre || (v.pre.toList == [])) = true) (g0 : 1 ≤ gv) (g3 : gv ≤ 3) :
    aboveB v n (gv == 1) (decide (gv < 3)) (gv == 2) pre = compB 2 gv v n := by
  unfold aboveB compB cAbove_r upperC
  rw [if_neg (by decide), if_neg (by decide), if_pos rfl]
  have hb : ∀ x : Bool, (bif (v.pre.toList == []) then x else bif pre then x else false) = x := by
    intro x
    generalize (v.pre.toList == []) = q at *
    cases pre <;> cases q <;> simp at hv ⊢
  rw [hb, ltI, ltI, ltI]
  have e : (verC v n == 1) = decide (0 < verC v n) := by
    rcases verC_vals v n with h | h | h <;> rw [h] <;> rfl
  obtain rfl | rfl | rfl : gv = 1 ∨ gv = 2 ∨ gv = 3 := by omega
  · rw [if_neg (by decide), numC_one]
    rcases seg_cases v.ma n.ma with ⟨h1, s1⟩ | ⟨h1, s1⟩ | ⟨h1, s1⟩
    · rw [s1, decide_eq_false (by omega : ¬ n.ma < v.ma), decide_eq_true h1]; rfl
    · rw [s1, decide_eq_false (by omega : ¬ n.ma < v.ma), decide_eq_false (by omega : ¬ v.ma < n.ma)]; rfl
    · rw [s1, decide_eq_true h1]; rfl
  · rw [if_neg (by decide), numC_two]
    rcases seg_cases v.ma n.ma with ⟨h1, s1⟩ | ⟨h1, s1⟩ | ⟨h1, s1⟩
    · rw [s1, decide_eq_false (by omega : ¬ n.ma < v.ma), decide_eq_true h1]; rfl
    · rw [s1, decide_eq_false (by omega : ¬ n.ma < v.ma), decide_eq_false (by omega : ¬ v.ma < n.ma), if_pos rfl]
      rcases seg_cases v.mi n.mi with ⟨h2, s2⟩ | ⟨h2, s2⟩ | ⟨h2, s2⟩
      · rw [s2, decide_eq_false (by omega : ¬ n.mi < v.mi)]; rfl
      · rw [s2, decide_eq_false (by omega : ¬ n.mi < v.mi)]; rfl
      · rw [s2, decide_eq_true h2]; rfl
    · rw [s1, decide_eq_true h1]; rfl
  · rw [if_pos rfl, e]
    cases decide (0 < verC v n) <;> rfl

theorem below_l (v n : Ver) (gv : Int) (mD d pD pre : Bool) (hv : (pre || (v.pre.toList == [])) = true) : belowB v n mD d pD pre = compB 3 gv v n := by
  unfold belowB compB cBelow_r
  rw [if_neg (by decide), if_neg (by decide), if_neg (by decide), if_pos rfl]
  generalize (v.pre.toList == []) = q at *
  cases pre <;> cases q <;> cases decide (verC v n < 0) <;> simp at hv ⊢

theorem least_l (v n : Ver) (gv : Int) (mD d pD pre : Bool) (hv : (pre || (v.pre.toList == [])) = true) : leastB v n mD d pD pre = compB 4 gv v n := by
  unfold leastB compB cLeast_r
  rw [if_neg (by decide), if_neg (by decide), if_neg (by decide), if_neg (by decide), if_pos rfl]
  generalize (v.pre.toList == []) = q at *
  cases pre <;> cases q <;> cases decide (0 ≤ verC v n) <;> simp at hv ⊢

theorem most_l (v n : Ver) (gv : Int) (pD pre : Bool) (hv : (pre || (v.pre.toList == [])) = true) (g0 : 1 ≤ gv) (g3 : gv ≤ 3) :
    mostB v n (gv == 1) (decide (gv < 3)) pD pre = compB 5 gv v n := by
  unfold mostB compB cMost_r upperC
  rw [if_neg (by decide), if_neg (by decide), if_neg (by decide), if_neg (by decide), if_neg (by decide), if_pos rfl]
  have hb : ∀ x : Bool, (bif (v.pre.toList == []) then x else bif pre then x else false) = x := by
    intro x
    generalize (v.pre.toList == []) = q at *
    cases pre <;> cases q <;> simp at hv ⊢
  rw [hb, ltI, ltI, beqI]
  obtain rfl | rfl | rfl : gv = 1 ∨ gv = 2 ∨ gv = 3 := by omega
  · rw [if_neg (by decide), numC_one]
    rcases seg_cases v.ma n.ma with ⟨h1, s1⟩ | ⟨h1, s1⟩ | ⟨h1, s1⟩
    · rw [s1, decide_eq_false (by omega : ¬ n.ma < v.ma), decide_eq_false (by omega : ¬ v.ma = n.ma)]; rfl
    · rw [s1, decide_eq_false (by omega : ¬ n.ma < v.ma), decide_eq_true h1]; cases decide (n.mi < v.mi) <;> rfl
    · rw [s1, decide_eq_true h1]; rfl
  · rw [if_neg (by decide), numC_two]
    rcases seg_cases v.ma n.ma with ⟨h1, s1⟩ | ⟨h1, s1⟩ | ⟨h1, s1⟩
    · rw [s1, decide_eq_false (by omega : ¬ n.ma < v.ma), decide_eq_false (by omega : ¬ v.ma = n.ma)]; rfl
    · rw [s1, decide_eq_false (by omega : ¬ n.ma < v.ma), decide_eq_true h1, if_pos rfl]
      rcases seg_cases v.mi n.mi with ⟨h2, s2⟩ | ⟨h2, s2⟩ | ⟨h2, s2⟩
      · rw [s2, decide_eq_false (by omega : ¬ n.mi < v.mi)]; rfl
      · rw [s2, decide_eq_false (by omega : ¬ n.mi < v.mi)]; rfl
      · rw [s2, decide_eq_true h2]; rfl
    · rw [s1, decide_eq_true h1]; rfl
  · rw [if_pos rfl]
    cases decide (verC v n ≤ 0) <;> rfl

theorem tilde_l (v n : Ver) (gv : Int) (pre : Bool) (hv : (pre || (v.pre.toList == [])) = true) (g0 : 0 ≤ gv) (g3 : gv ≤ 3) (hpa : gv < 3 → n.pa = 0) (hmi : gv < 2 → n.mi = 0) (hma : gv < 1 → n.ma = 0) (hz : gv = 3 → ¬ (n.ma = 0 ∧ n.mi = 0 ∧ n.pa = 0)) :
    tildeB v n (gv == 1) (decide (gv < 3)) (gv == 2) pre = compB 6 gv v n := by
  unfold compB
  rw [if_neg (by decide), if_neg (by decide), if_neg (by decide), if_neg (by decide), if_neg (by decide), if_neg (by decide), if_pos rfl]
  by_cases h1 : 1 ≤ gv
  · rw [tilde_law v n gv pre h1 g3 hz hv]
    unfold mn
    obtain rfl | rfl | rfl : gv = 1 ∨ gv = 2 ∨ gv = 3 := by omega
    · rw [if_pos (by decide), numB_one]; simp
    · rw [if_neg (by decide), numB_two]; simp
    · rw [if_neg (by decide), numB_two]; simp
  · obtain rfl : gv = 0 := by omega
    unfold mn
    rw [tilde_zero v n pre hv (hma (by omega)) (hmi (by omega)) (hpa (by omega)), if_pos (by decide), numC_zero]
    simp

theorem caret_l (v n : Ver) (gv : Int) (d pre : Bool) (hv : (pre || (v.pre.toList == [])) = true) (g0 : 1 ≤ gv) (g3 : gv ≤ 3) (hpa : gv < 3 → n.pa = 0) (hmi : gv < 2 → n.mi = 0) :
    caretB v n (gv == 1) d (gv == 2) pre = compB 7 gv v n := by
  unfold caretB lessB compB cCaret_r
  rw [if_neg (by decide), if_neg (by decide), if_neg (by decide), if_neg (by decide), if_neg (by decide), if_neg (by decide), if_neg (by decide)]
  have hb : ∀ x : Bool, (bif (v.pre.toList == []) then x else bif pre then x else false) = x := by
    intro x
    generalize (v.pre.toList == []) = q at *
    cases pre <;> cases q <;> simp at hv ⊢
  have e : decide (verC v n < 0) = !decide (0 ≤ verC v n) := by
    rw [Bool.eq_iff_iff, Bool.not_eq_true', decide_eq_true_eq, decide_eq_false_iff_not]; omega
  rw [hb, e, gtI, gtI, gtI, gtI, beqI0, beqI0, beqI, beqI, beqI]
  have e2 : decide (n.pa = v.pa) = decide (v.pa = n.pa) := decide_eq_decide.2 eq_comm
  rw [e2]
  generalize decide (0 ≤ verC v n) = L
  unfold caretN
  by_cases a0 : n.ma = 0
  · rw [if_neg (by omega), a0]
    by_cases b0 : n.mi = 0
    · rw [if_neg (by omega), b0]
      by_cases c0 : n.pa = 0
      · rw [if_neg (by omega), c0]
        obtain rfl | rfl | rfl : gv = 1 ∨ gv = 2 ∨ gv = 3 := by omega
        · rw [numB_one]
          cases L <;> cases decide (v.ma = 0) <;> rfl
        · rw [numB_two]
          cases L <;> cases decide (v.ma = 0) <;> cases decide (v.mi = 0) <;> rfl
        · rw [numB_three]
          cases L <;> cases decide (v.ma = 0) <;> cases decide (v.mi = 0) <;> cases decide (v.pa = 0) <;> rfl
      · rw [if_pos c0, numB_three]
        obtain rfl : gv = 3 := by
          by_cases q : gv < 3
          · exact absurd (hpa q) c0
          · omega
        cases L <;> cases decide (v.ma = 0) <;> cases decide (v.mi = 0) <;> cases decide (v.pa = n.pa) <;> rfl
    · rw [if_pos b0, decide_eq_false b0, numB_two]
      have h1 : (gv == 1) = false := by
        rw [beq_eq_false_iff_ne]
        intro q
        exact b0 (hmi (by omega))
      rw [h1]
      cases L <;> cases decide (v.ma = 0) <;> cases decide (v.mi = n.mi) <;> rfl
  · rw [if_pos a0, decide_eq_false a0, numB_one]
    cases L <;> cases decide (v.ma = n.ma) <;> rfl

/-- A term says of a release, or, while prereleases are let in, of a version of any kind but for != with numbers missing, what Compares says. -/
theorem term_l (op gv : Int) (a b c : Nat) (p : ByteArray) (v : Ver) (m : ByteArray) (pre : Bool) (hv : (pre || (v.pre.toList == [])) = true) (G : GoodT op gv a b c (bl p)) (hs : op = 1 → gv = 3 ∨ bl v.pre = []) :
    termI op v (vOf a b c p m) (gv == 1) (decide (gv < 3)) (gv == 2) pre = compB op gv v (vOf a b c p m) := by
  have h0 := G.g0; have h3 := G.g3; have hw := G.wild; have o0 := G.op0; have o8 := G.op8
  have hpa : gv < 3 → (vOf a b c p m).pa = 0 := fun h => by have := G.pa h; show c = 0; omega
  have hmi : gv < 2 → (vOf a b c p m).mi = 0 := fun h => by have := G.mi h; show b = 0; omega
  have hma : gv < 1 → (vOf a b c p m).ma = 0 := fun h => by have := G.ma h; show a = 0; omega
  unfold termI
  have e : op = 0 ∨ op = 1 ∨ op = 2 ∨ op = 3 ∨ op = 4 ∨ op = 5 ∨ op = 6 ∨ op = 7 := by omega
  rcases e with rfl | rfl | rfl | rfl | rfl | rfl | rfl | rfl
  · rw [if_pos rfl]; exact equal_l v _ gv pre hv h0 h3 hpa hmi hma
  · rw [if_neg (by decide), if_pos rfl, notEqual_law v _ gv pre (by omega) h3 G.pr (hs rfl), hv]; rfl
  · rw [if_neg (by decide), if_neg (by decide), if_pos rfl]; exact above_l v _ gv pre hv (by omega) h3
  · rw [if_neg (by decide), if_neg (by decide), if_neg (by decide), if_pos rfl]; exact below_l v _ gv _ _ _ pre hv
  · rw [if_neg (by decide), if_neg (by decide), if_neg (by decide), if_neg (by decide), if_pos rfl]; exact least_l v _ gv _ _ _ pre hv
  · rw [if_neg (by decide), if_neg (by decide), if_neg (by decide), if_neg (by decide), if_neg (by decide), if_pos rfl]; exact most_l v _ gv _ pre hv (by omega) h3
  · rw [if_neg (by decide), if_neg (by decide), if_neg (by decide), if_neg (by decide), if_neg (by decide), if_neg (by decide), if_pos rfl]
    refine tilde_l v _ gv pre hv h0 h3 hpa hmi hma (fun h => ?_)
    rintro ⟨z0, z1, z2⟩
    have z0' : a = 0 := z0
    have z1' : b = 0 := z1
    have z2' : c = 0 := z2
    exact G.zero h rfl (by omega) (by omega) (by omega)
  · rw [if_neg (by decide), if_neg (by decide), if_neg (by decide), if_neg (by decide), if_neg (by decide), if_neg (by decide), if_neg (by decide)]
    exact caret_l v _ gv _ pre hv (by omega) h3 hpa hmi

end Go.Proofs.YtllkoadcpobdaaaDoor.KX
