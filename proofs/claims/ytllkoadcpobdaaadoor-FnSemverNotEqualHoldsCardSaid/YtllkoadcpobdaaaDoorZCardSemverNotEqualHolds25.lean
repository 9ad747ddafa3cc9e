/- The row and the tied card of FnSemverNotEqualHolds, out of its printed walk and its plain law. For every input that the statement lets in. -/
import Derived.Test.YtllkoadcpobdaaaDoorZCardSemverNotEqualHolds6
import Derived.Test.YtllkoadcpobdaaaDoorZCardSemverNotEqualHolds7
import Derived.Test.YtllkoadcpobdaaaDoorZCardSemverNotEqualHolds9
import Derived.Test.YtllkoadcpobdaaaDoorZCardSemverNotEqualHolds10
import Derived.Test.YtllkoadcpobdaaaDoorZCardSemverNotEqualHolds22
import Derived.Test.YtllkoadcpobdaaaDoorZCardSemverNotEqualHolds24
namespace Go.Proofs.YtllkoadcpobdaaaDoor.KX

open Go Go.RowKit Go.Lib Go.Proofs Go.Proofs.YtllkoadcpobdaaaDoor.Base Go.Proofs.YtllkoadcpobdaaaDoor.L Go.Proofs.YtllkoadcpobdaaaDoor.Bt Go.Proofs.YtllkoadcpobdaaaDoor.Parse Go.Proofs.YtllkoadcpobdaaaDoor.PX

open Go.Proofs.YtllkoadcpobdaaaDoorW.PrintWords Go.Proofs.YtllkoadcpobdaaaDoorW.PrintLast Go.Proofs.YtllkoadcpobdaaaDoorW.PrintMore

theorem fits13_f (op gv a b c : Int) (p : ByteArray) : laws_zzFits13.f op gv a b c p = some (decide (p.size ≤ 2147483647)) := by
  unfold laws_zzFits13.f
  by_cases h1 : p.size ≤ 2147483647
  · rw [if_neg (by omega), decide_eq_true h1]
  · rw [if_pos (by omega), decide_eq_false h1]

theorem beqN (a b : Nat) : ((a : Int) == (b : Int)) = decide (a = b) := by
  rw [Bool.eq_iff_iff, beq_iff_eq, decide_eq_true_eq]; omega

theorem segB (a b : Nat) : (segC a b != 0) = !decide (a = b) := by
  rw [Bool.eq_iff_iff, bne_iff_ne, Bool.not_eq_true', decide_eq_false_iff_not, ne_eq, segC_zero]

/-- How a version stands to the numbers given. -/
def upperC (gv : Int) (v n : Ver) : Int := if gv = 3 then verC v n else numC gv v.ma v.mi v.pa n.ma n.mi n.pa

theorem numC_one (a b c a' b' c' : Nat) : numC 1 a b c a' b' c' = segC a a' := by
  unfold numC
  by_cases h : segC a a' = 0 <;> simp [h]

theorem numC_two (a b c a' b' c' : Nat) : numC 2 a b c a' b' c' = if segC a a' = 0 then segC b b' else segC a a' := by
  unfold numC
  by_cases h : segC a a' = 0 <;> by_cases h2 : segC b b' = 0 <;> simp [h, h2]

theorem notEqual_law (v n : Ver) (gv : Int) (pre : Bool) (h1 : 1 ≤ gv) (h3 : gv ≤ 3) (hp : gv < 3 → bl n.pre = []) (hs : gv = 3 ∨ bl v.pre = []) :
    notEqualB v n (gv == 1) (decide (gv < 3)) (gv == 2) pre = ((pre || (v.pre.toList == [])) && (upperC gv v n != 0)) := by
  unfold notEqualB upperC cNotEqual_r
  obtain rfl | rfl | rfl : gv = 1 ∨ gv = 2 ∨ gv = 3 := by omega
  · have e : (v.pre.toList == []) = true := by rw [toList_bl, beq_iff_eq]; rcases hs with h | h; · omega
                                               · exact h
    rw [e, if_neg (by decide), numC_one, segB, beqN]
    simp only [eq_comm]
    cases decide (v.ma = n.ma) <;> cases ((n.mi : Int) == (v.mi : Int)) <;> simp
  · have e : (v.pre.toList == []) = true := by rw [toList_bl, beq_iff_eq]; rcases hs with h | h; · omega
                                               · exact h
    have e2 : (n.pre.toList == []) = true := by rw [toList_bl, beq_iff_eq]; exact hp (by omega)
    have e3 : ((if segC v.ma n.ma = 0 then segC v.mi n.mi else segC v.ma n.ma) != 0) = !(decide (v.ma = n.ma) && decide (v.mi = n.mi)) := by
      by_cases q : v.ma = n.ma
      · rw [if_pos ((segC_zero _ _).2 q), segB, decide_eq_true q, Bool.true_and]
      · rw [if_neg (fun z => q ((segC_zero _ _).1 z)), segB, decide_eq_false q, Bool.false_and]
    rw [e, e2, if_neg (by decide), numC_two, e3, beqN, beqN, beqN]
    simp only [eq_comm]
    cases decide (v.ma = n.ma) <;> cases decide (v.mi = n.mi) <;> cases decide (v.pa = n.pa) <;> simp
  · rw [if_pos rfl, bne]
    cases (v.pre.toList == []) <;> cases pre <;> cases (verC v n == 0) <;> simp

theorem good_parts {x : S26} (h : goodS x = true) : x.f3.size ≤ 65536 ∧ x.f4.size ≤ 65536 ∧ gPre (bl x.f3) = true := by
  unfold goodS partsOk at h
  simp only [Bool.and_eq_true, decide_eq_true_eq] at h
  exact ⟨h.1.1, h.1.2, h.2.1⟩

/-- What a term asked for is. -/
theorem asked_f (k : Nat) (op0 op gv : Int) (a b c : Nat) (p : ByteArray) (x0 x1 x2 : Nat) (xp xm : ByteArray) (hp : p.size ≤ 2147483647) (hk : 5000000000 ≤ k) :
    ∃ r, laws_snAsked.f k op0 gv a b c p op x0 x1 x2 xp xm = some r ∧ (r = true → GoodT op gv a b c (bl p) ∧ goodS ⟨x0, x1, x2, xp, xm⟩ = true ∧ spec_Spoken.f k op gv a b c p x0 x1 x2 xp xm = some true) := by
  unfold laws_snAsked.f
  simp only [laws_snAs.f, Option.bind_some]
  obtain ⟨r, hr, hg⟩ := goodTerm_f k op gv a b c p hp (by omega)
  rw [hr, Option.bind_some]
  cases r with
  | false => exact ⟨false, rfl, by simp⟩
  | true =>
    rw [if_pos rfl, svGood_k _ (by simp) _ (by simp; omega), Option.bind_some]
    simp only [List.all_cons, List.all_nil, Bool.and_true]
    cases hs : goodS ⟨x0, x1, x2, xp, xm⟩
    · exact ⟨false, rfl, by simp⟩
    · rw [if_pos rfl]
      obtain ⟨s, hs2⟩ : ∃ s, spec_Spoken.f k op gv a b c p x0 x1 x2 xp xm = some s := by
        obtain ⟨k, rfl⟩ : ∃ m, k = m + 1 := ⟨k - 1, by omega⟩
        unfold spec_Spoken.f
        repeat' first
          | exact ⟨_, rfl⟩
          | split
          | simp only [spec_Spoken.j0, spec_CompareNumbers.f, Option.bind_some]
      rw [hs2, Option.bind_some]
      exact ⟨s, rfl, fun e => ⟨hg rfl, rfl, by rw [e]⟩⟩

theorem spokenNot (k : Nat) (gv : Int) (a b c : Nat) (p : ByteArray) (x0 x1 x2 : Nat) (xp xm : ByteArray) (h : spec_Spoken.f (k + 1) 1 gv a b c p x0 x1 x2 xp xm = some true) : gv = 3 ∨ bl xp = [] := by
  by_cases h3 : gv = 3
  · exact .inl h3
  · right
    unfold spec_Spoken.f at h
    split at h <;> simp only [spec_Spoken.j0] at h
    · rw [if_neg h3, if_neg (by decide), if_pos trivial, toList_bl] at h
      simpa using h
    · rw [if_neg h3, if_neg (by decide), if_pos trivial, toList_bl] at h
      simpa using h

theorem compares_not (k : Nat) (gv : Int) (a b c : Nat) (p : ByteArray) (x0 x1 x2 : Nat) (xp xm : ByteArray) (hp : p.size ≤ 2147483647) (hx : xp.size ≤ 65536) (gp : gPre (bl p) = true) (gx : gPre (bl xp) = true) (hk : 4 * (xp.size + p.size) + 10 < k + 1) :
    spec_Compares.f (k + 1) 1 gv a b c p x0 x1 x2 xp xm = some (upperC gv (vOf x0 x1 x2 xp xm) (vOf a b c p ⟨#[]⟩) != 0) := by
  unfold spec_Compares.f upperC
  simp only [spec_Least.f, Option.bind_some]
  rw [numbers_f, Option.bind_some]
  by_cases h : gv = 3
  · rw [if_pos h, if_pos h, compare_f _ _ _ _ _ _ _ _ _ _ (by omega) hp gx gp _ hk, Option.bind_some]
    simp only [spec_Compares.j0]
    rfl
  · rw [if_neg h, if_neg h]
    simp only [spec_Compares.j0]
    rfl

theorem ne_j0 (k : Nat) (fl pre : Bool) (op0 gv : Int) (a b c : Nat) (p : ByteArray) (x0 x1 x2 : Nat) (xp xm : ByteArray) (hp : fl = false → p.size ≤ 2147483647) (hk : 10000000000 ≤ k) :
    laws_FnSemverNotEqualHolds.j0 (k + 2) pre fl op0 gv a b c p x0 x1 x2 xp xm = some true := by
  simp only [laws_FnSemverNotEqualHolds.j0]
  cases fl with
  | true => rfl
  | false =>
    have hp := hp rfl
    rw [if_neg (by decide)]
    obtain ⟨r, hr, hf⟩ := asked_f (k + 1) op0 1 gv a b c p x0 x1 x2 xp xm hp (by omega)
    rw [hr, Option.bind_some]
    cases r with
    | false => rfl
    | true =>
      obtain ⟨hg, hs, hsp⟩ := hf rfl
      obtain ⟨s1, s2, s3⟩ := good_parts hs
      simp only [] at s1 s2 s3
      have hsp := spokenNot k gv a b c p x0 x1 x2 xp xm hsp
      have hw := hg.wild
      have hg0 := hg.g0
      rw [if_pos rfl]
      unfold impl_NotEqualHolds.f
      rw [if_pos ⟨hg.g0, by unfold okV; omega, by unfold okV; omega⟩, Option.bind_some]
      have e1 := notEqual_law (vOf x0 x1 x2 xp xm) (vOf a b c p ⟨#[]⟩) gv pre (by omega) hg.g3 hg.pr hsp
      rw [e1]
      unfold laws_snWant.f
      simp only [laws_snAs.f, Option.bind_some]
      rw [compares_not k gv a b c p x0 x1 x2 xp xm hp s1 hg.gp s3 (by omega)]
      simp only [Option.bind_some]
      show _ = some true
      have e : (vOf x0 x1 x2 xp xm).pre = xp := rfl
      rw [e]
      cases pre with
      | true => simp
      | false =>
        by_cases q : xp.toList = []
        · rw [q]; simp
        · have : (xp.toList == []) = false := beq_eq_false_iff_ne.2 q
          rw [if_neg (by decide), if_neg q, this]; rfl

theorem pure_NotEqualHolds (op gv : Int) (a b c : Nat) (p : ByteArray) (x0 x1 x2 : Nat) (xp xm : ByteArray) (pre : Bool) (_ : -9223372036854775808 ≤ op ∧ op ≤ 9223372036854775807) (_ : -9223372036854775808 ≤ gv ∧ gv ≤ 9223372036854775807) (_ : a ≤ 18446744073709551615) (_ : b ≤ 18446744073709551615) (_ : c ≤ 18446744073709551615) (_ : x0 ≤ 18446744073709551615) (_ : x1 ≤ 18446744073709551615) (_ : x2 ≤ 18446744073709551615) :
    ∃ k, laws_FnSemverNotEqualHolds.f k op gv a b c p x0 x1 x2 xp xm pre = some true := by
  refine ⟨10000000002, ?_⟩
  unfold laws_FnSemverNotEqualHolds.f
  rw [fits13_f, Option.bind_some]
  split
  · rename_i h
    rw [fits14_f, Option.bind_some]
    exact ne_j0 10000000000 _ pre op gv a b c p x0 x1 x2 xp xm (fun _ => by simpa using h) (by omega)
  · exact ne_j0 10000000000 _ pre op gv a b c p x0 x1 x2 xp xm (by simp) (by omega)

end Go.Proofs.YtllkoadcpobdaaaDoor.KX
