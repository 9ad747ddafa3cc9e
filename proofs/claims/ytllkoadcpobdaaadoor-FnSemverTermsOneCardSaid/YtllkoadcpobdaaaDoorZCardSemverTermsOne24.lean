/- The row and the tied card of FnSemverTermsOne, out of its printed walk and its plain law. For every input that the statement lets in. -/
import Derived.Test.YtllkoadcpobdaaaDoorZCardSemverTermsOne1
import Derived.Test.YtllkoadcpobdaaaDoorZCardSemverTermsOne3
import Derived.Test.YtllkoadcpobdaaaDoorZCardSemverTermsOne6
import Derived.Test.YtllkoadcpobdaaaDoorZCardSemverTermsOne8
import Derived.Test.YtllkoadcpobdaaaDoorZCardSemverTermsOne15
import Derived.Test.YtllkoadcpobdaaaDoorZCardSemverTermsOne16
import Derived.Test.YtllkoadcpobdaaaDoorZCardSemverTermsOne17
import Derived.Test.YtllkoadcpobdaaaDoorZCardSemverTermsOne19
import Derived.Lib.ParseIntB
import Derived.Deep.RegionHeld3
import Derived.Deep.LoopGhost
import Derived.Deep.QuietTactic
import Derived.BigQuiet
import Derived.Lib.QuietBelow
namespace Go.Proofs.YtllkoadcpobdaaaDoor.Bt
end Go.Proofs.YtllkoadcpobdaaaDoor.Bt
namespace Go.Proofs.YtllkoadcpobdaaaDoor.L
end Go.Proofs.YtllkoadcpobdaaaDoor.L
namespace Go.Proofs.YtllkoadcpobdaaaDoor.Num
end Go.Proofs.YtllkoadcpobdaaaDoor.Num
namespace Go.Proofs.YtllkoadcpobdaaaDoor.PX
end Go.Proofs.YtllkoadcpobdaaaDoor.PX
namespace Go.Proofs.YtllkoadcpobdaaaDoor.Parse
end Go.Proofs.YtllkoadcpobdaaaDoor.Parse
namespace Go.Proofs.YtllkoadcpobdaaaDoor.Part
end Go.Proofs.YtllkoadcpobdaaaDoor.Part
namespace Go.Proofs.YtllkoadcpobdaaaDoor.KX

open Go Go.RowKit Go.Lib Go.Proofs Go.Proofs.YtllkoadcpobdaaaDoor.L Go.Proofs.YtllkoadcpobdaaaDoor.Bt Go.Proofs.YtllkoadcpobdaaaDoor.Parse Go.Proofs.YtllkoadcpobdaaaDoor.Part Go.Proofs.YtllkoadcpobdaaaDoor.Num Go.Proofs.YtllkoadcpobdaaaDoor.PX

open Go.Proofs.YtllkoadcpobdaaaDoorW.PrintWords Go.Proofs.YtllkoadcpobdaaaDoorW.PrintLast Go.Proofs.YtllkoadcpobdaaaDoorW.PrintMore

/-- A good prerelease: none, or a valid one of small numbers. -/
def gPre (l : List UInt8) : Bool := l == [] || (preOk l && smallOk l)

theorem cpp_self (a : List UInt8) : cpp a a = 0 := by unfold cpp; rw [if_pos rfl]

theorem cpl_self : ∀ x : List (List UInt8), cpl x x = 0
  | [] => by rw [cpl]
  | a :: x => by rw [cpl, cpp_self, if_pos rfl, cpl_self x]

end Go.Proofs.YtllkoadcpobdaaaDoor.KX
namespace Go.Proofs.YtllkoadcpobdaaaDoor.KX

open Go Go.RowKit Go.Lib Go.Proofs Go.Proofs.YtllkoadcpobdaaaDoor.L Go.Proofs.YtllkoadcpobdaaaDoor.Bt Go.Proofs.YtllkoadcpobdaaaDoor.Parse Go.Proofs.YtllkoadcpobdaaaDoor.Part Go.Proofs.YtllkoadcpobdaaaDoor.Num Go.Proofs.YtllkoadcpobdaaaDoor.PX

open Go.Proofs.YtllkoadcpobdaaaDoorW.PrintWords Go.Proofs.YtllkoadcpobdaaaDoorW.PrintLast Go.Proofs.YtllkoadcpobdaaaDoorW.PrintMore

/-- The first n numbers compared. -/
def numC (n : Int) (a b c a' b' c' : Nat) : Int := if 0 < n ∧ segC a a' ≠ 0 then segC a a' else if 1 < n ∧ segC b b' ≠ 0 then segC b b' else if 2 < n ∧ segC c c' ≠ 0 then segC c c' else 0

theorem segC_zero (a b : Nat) : segC a b = 0 ↔ a = b := by
  unfold segC
  split
  · simp; omega
  · split
    · simp; omega
    · simp; omega

theorem verC_numC (v w : Ver) : verC v w = if numC 3 v.ma v.mi v.pa w.ma w.mi w.pa = 0 then preAny (bl v.pre) (bl w.pre) else numC 3 v.ma v.mi v.pa w.ma w.mi w.pa := by
  unfold verC numC
  by_cases h1 : segC v.ma w.ma = 0
  · by_cases h2 : segC v.mi w.mi = 0
    · by_cases h3 : segC v.pa w.pa = 0
      · simp [h1, h2, h3]
      · simp [h1, h2, h3]
    · simp [h1, h2]
  · simp [h1]

/-- What a good term is. -/
structure GoodT (op gv a b c : Int) (p : List UInt8) : Prop where
  op0 : 0 ≤ op
  op8 : op < 8
  g0 : 0 ≤ gv
  g3 : gv ≤ 3
  pa : gv < 3 → c = 0
  pr : gv < 3 → p = []
  mi : gv < 2 → b = 0
  ma : gv < 1 → a = 0
  gp : gPre p = true
  wild : gv = 0 → op = 0 ∨ op = 4 ∨ op = 6
  zero : gv = 3 → op = 6 → a = 0 → b = 0 → c ≠ 0

theorem gt_j3 (k : Nat) (fl : Bool) (op gv a b c : Int) (p : ByteArray) (hp : p.size ≤ 2147483647) (hk : 2 * p.size + 10 ≤ k) :
    ∃ r, spec_GoodTerm.j3 (k + 1) fl op gv a b c p = some r ∧ (r = true → fl = false ∧ gPre (bl p) = true) := by
  simp only [spec_GoodTerm.j3]
  cases fl with
  | true => exact ⟨false, rfl, by simp⟩
  | false =>
    rw [if_neg (by decide), toList_bl]
    unfold gPre
    by_cases h : bl p = []
    · rw [if_pos h, h]; exact ⟨true, rfl, fun _ => ⟨rfl, rfl⟩⟩
    · rw [if_neg h, validPre_f p (by omega) k (by omega), Option.bind_some]
      cases h1 : preOk (bl p)
      · exact ⟨false, rfl, by simp⟩
      · rw [if_pos rfl, smallPre_f p (by omega) k (by omega), Option.bind_some]
        exact ⟨_, rfl, fun e => ⟨rfl, by rw [e]; simp⟩⟩

theorem gt_j2 (k : Nat) (fl : Bool) (op gv a b c : Int) (p : ByteArray) (hp : p.size ≤ 2147483647) (hk : 2 * p.size + 10 ≤ k) :
    ∃ r, spec_GoodTerm.j2 (k + 2) fl op gv a b c p = some r ∧ (r = true → fl = false ∧ (gv < 3 → c = 0) ∧ (gv < 3 → bl p = []) ∧ (gv < 2 → b = 0) ∧ (gv < 1 → a = 0) ∧ gPre (bl p) = true) := by
  simp only [spec_GoodTerm.j2]
  cases fl with
  | true => exact ⟨false, rfl, by simp⟩
  | false =>
    rw [if_neg (by decide), toList_bl]
    repeat' split
    all_goals
      refine (gt_j3 k _ op gv a b c p hp hk).imp (fun r hr => ⟨hr.1, fun e => ?_⟩)
      obtain ⟨h1, h2⟩ := hr.2 e
      try rw [bne_eq_false_iff_eq] at h1
      first
        | exact absurd h1 (by decide)
        | exact ⟨rfl, by omega, (fun _ => by first | assumption | omega), by omega, by omega, h2⟩

theorem gt_j1 (k : Nat) (fl : Bool) (op gv a b c : Int) (p : ByteArray) (hp : p.size ≤ 2147483647) (hk : 2 * p.size + 10 ≤ k) :
    ∃ r, spec_GoodTerm.j1 (k + 3) fl op gv a b c p = some r ∧ (r = true → fl = false ∧ 0 ≤ op ∧ op < 8 ∧ 0 ≤ gv ∧ gv ≤ 3 ∧ (gv < 3 → c = 0) ∧ (gv < 3 → bl p = []) ∧ (gv < 2 → b = 0) ∧ (gv < 1 → a = 0) ∧ gPre (bl p) = true) := by
  simp only [spec_GoodTerm.j1]
  cases fl with
  | true => exact ⟨false, rfl, by simp⟩
  | false =>
    rw [if_neg (by decide)]
    repeat' split
    all_goals
      refine (gt_j2 k _ op gv a b c p hp hk).imp (fun r hr => ⟨hr.1, fun e => ?_⟩)
      obtain ⟨h1, h2⟩ := hr.2 e
      try rw [decide_eq_false_iff_not] at h1
      first
        | exact absurd h1 (by decide)
        | exact ⟨rfl, by omega, by omega, by omega, by omega, h2⟩

theorem gt_j0 (k : Nat) (fl : Bool) (op gv a b c : Int) (p : ByteArray) (hp : p.size ≤ 2147483647) (hk : 2 * p.size + 10 ≤ k) :
    ∃ r, spec_GoodTerm.j0 (k + 4) fl op gv a b c p = some r ∧ (r = true → (gv = 0 → op = 0 ∨ op = 4 ∨ op = 6) ∧ (gv = 3 → op = 6 → fl = false) ∧ 0 ≤ op ∧ op < 8 ∧ 0 ≤ gv ∧ gv ≤ 3 ∧ (gv < 3 → c = 0) ∧ (gv < 3 → bl p = []) ∧ (gv < 2 → b = 0) ∧ (gv < 1 → a = 0) ∧ gPre (bl p) = true) := by
  simp only [spec_GoodTerm.j0]
  repeat' split
  all_goals
    refine (gt_j1 k _ op gv a b c p hp hk).imp (fun r hr => ⟨hr.1, fun e => ?_⟩)
    obtain ⟨h1, h2⟩ := hr.2 e
    first
      | exact absurd h1 (by decide)
      | exact ⟨by omega, fun _ _ => by first | assumption | omega, h2⟩

theorem goodTerm_f (k : Nat) (op gv a b c : Int) (p : ByteArray) (hp : p.size ≤ 2147483647) (hk : 2 * p.size + 14 ≤ k) :
    ∃ r, spec_GoodTerm.f k op gv a b c p = some r ∧ (r = true → GoodT op gv a b c (bl p)) := by
  obtain ⟨k, rfl⟩ : ∃ m, k = m + 4 := ⟨k - 4, by omega⟩
  unfold spec_GoodTerm.f
  repeat' split
  all_goals
    refine (gt_j0 k _ op gv a b c p hp (by omega)).imp (fun r hr => ⟨hr.1, fun e => ?_⟩)
    obtain ⟨h1, h2, h3, h4, h5, h6, h7, h8, h9, h10, h11⟩ := hr.2 e
    refine ⟨h3, h4, h5, h6, h7, h8, h9, h10, h11, h1, fun e1 e2 e3 e4 => ?_⟩
    have := h2 e1 e2
    first
      | exact beq_eq_false_iff_ne.1 this
      | (exfalso; omega)

end Go.Proofs.YtllkoadcpobdaaaDoor.KX
namespace Go.Proofs.YtllkoadcpobdaaaDoor.KX

open Go Go.RowKit Go.Lib Go.Proofs Go.Proofs.YtllkoadcpobdaaaDoor.L Go.Proofs.YtllkoadcpobdaaaDoor.Bt Go.Proofs.YtllkoadcpobdaaaDoor.Parse Go.Proofs.YtllkoadcpobdaaaDoor.Part Go.Proofs.YtllkoadcpobdaaaDoor.Num Go.Proofs.YtllkoadcpobdaaaDoor.PX

theorem verC_self (v n : Ver) (h1 : v.ma = n.ma) (h2 : v.mi = n.mi) (h3 : v.pa = n.pa) (h4 : bl v.pre = bl n.pre) : verC v n = 0 := by
  rw [verC_numC, h1, h2, h3, h4]
  have z : numC 3 n.ma n.mi n.pa n.ma n.mi n.pa = 0 := by
    unfold numC
    rw [(segC_zero n.ma n.ma).2 rfl, (segC_zero n.mi n.mi).2 rfl, (segC_zero n.pa n.pa).2 rfl]
    simp
  rw [if_pos z]
  unfold preAny
  by_cases e : bl n.pre = []
  · rw [if_pos e, if_pos e]
  · rw [if_neg e, if_neg e, preC, cpl_self]

end Go.Proofs.YtllkoadcpobdaaaDoor.KX
