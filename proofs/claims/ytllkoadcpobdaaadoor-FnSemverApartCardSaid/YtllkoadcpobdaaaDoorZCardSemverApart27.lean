/- The row and the tied card of FnSemverApart, out of its printed walk and its plain law. For every input that the statement lets in. -/
import Derived.Test.YtllkoadcpobdaaaDoorZCardSemverApart1
import Derived.Test.YtllkoadcpobdaaaDoorZCardSemverApart7
import Derived.Test.YtllkoadcpobdaaaDoorZCardSemverApart9
import Derived.Test.YtllkoadcpobdaaaDoorZCardSemverApart13
import Derived.Test.YtllkoadcpobdaaaDoorZCardSemverApart16
import Derived.Test.YtllkoadcpobdaaaDoorZCardSemverApart20
import Derived.Test.YtllkoadcpobdaaaDoorZCardSemverApart26
import Derived.Deep.RegionHeld3
import Derived.Deep.LoopGhost
import Derived.Deep.QuietTactic
import Derived.BigQuiet
import Derived.Lib.QuietBelow
namespace Go.Proofs.YtllkoadcpobdaaaDoor.Bt
end Go.Proofs.YtllkoadcpobdaaaDoor.Bt
namespace Go.Proofs.YtllkoadcpobdaaaDoor.L
end Go.Proofs.YtllkoadcpobdaaaDoor.L
namespace Go.Proofs.YtllkoadcpobdaaaDoor.Num
end Go.Proofs.YtllkoadcpobdaaaDoor.Num
namespace Go.Proofs.YtllkoadcpobdaaaDoor.PX
end Go.Proofs.YtllkoadcpobdaaaDoor.PX
namespace Go.Proofs.YtllkoadcpobdaaaDoor.Parse
end Go.Proofs.YtllkoadcpobdaaaDoor.Parse
namespace Go.Proofs.YtllkoadcpobdaaaDoor.Part
end Go.Proofs.YtllkoadcpobdaaaDoor.Part
namespace Go.Proofs.YtllkoadcpobdaaaDoor.KX

open Go Go.RowKit Go.Lib Go.Proofs Go.Proofs.YtllkoadcpobdaaaDoor.L Go.Proofs.YtllkoadcpobdaaaDoor.Bt Go.Proofs.YtllkoadcpobdaaaDoor.Parse Go.Proofs.YtllkoadcpobdaaaDoor.Part Go.Proofs.YtllkoadcpobdaaaDoor.Num Go.Proofs.YtllkoadcpobdaaaDoor.PX

open Go.Proofs.YtllkoadcpobdaaaDoorW.PrintWords Go.Proofs.YtllkoadcpobdaaaDoorW.PrintLast Go.Proofs.YtllkoadcpobdaaaDoorW.PrintMore

/-- A good prerelease: none, or a valid one of small numbers. -/
def gPre (l : List UInt8) : Bool := l == [] || (preOk l && smallOk l)

theorem gPre_parts {l : List UInt8} (h : gPre l = true) (hn : l ≠ []) : ∀ p ∈ splitL 46 l, goodP p = true := by
  unfold gPre preOk smallOk at h
  rw [Bool.or_eq_true, beq_iff_eq] at h
  rcases h with h | h
  · exact absurd h hn
  · rw [Bool.and_eq_true, List.all_eq_true, List.all_eq_true] at h
    intro p hp
    have h1 := h.1 p hp
    have h2 := h.2 p hp
    unfold goodP
    rw [h1, Bool.true_and]
    exact h2

end Go.Proofs.YtllkoadcpobdaaaDoor.KX
namespace Go.Proofs.YtllkoadcpobdaaaDoor.KX

open Go Go.RowKit Go.Lib Go.Proofs Go.Proofs.YtllkoadcpobdaaaDoor.L Go.Proofs.YtllkoadcpobdaaaDoor.Bt Go.Proofs.YtllkoadcpobdaaaDoor.Parse Go.Proofs.YtllkoadcpobdaaaDoor.Part Go.Proofs.YtllkoadcpobdaaaDoor.Num Go.Proofs.YtllkoadcpobdaaaDoor.PX

open Go.Proofs.YtllkoadcpobdaaaDoorW.PrintWords Go.Proofs.YtllkoadcpobdaaaDoorW.PrintLast Go.Proofs.YtllkoadcpobdaaaDoorW.PrintMore

/-- The first n numbers compared. -/
def numC (n : Int) (a b c a' b' c' : Nat) : Int := if 0 < n ∧ segC a a' ≠ 0 then segC a a' else if 1 < n ∧ segC b b' ≠ 0 then segC b b' else if 2 < n ∧ segC c c' ≠ 0 then segC c c' else 0

theorem segC_zero (a b : Nat) : segC a b = 0 ↔ a = b := by
  unfold segC
  split
  · simp; omega
  · split
    · simp; omega
    · simp; omega

theorem verC_numC (v w : Ver) : verC v w = if numC 3 v.ma v.mi v.pa w.ma w.mi w.pa = 0 then preAny (bl v.pre) (bl w.pre) else numC 3 v.ma v.mi v.pa w.ma w.mi w.pa := by
  unfold verC numC
  by_cases h1 : segC v.ma w.ma = 0
  · by_cases h2 : segC v.mi w.mi = 0
    · by_cases h3 : segC v.pa w.pa = 0
      · simp [h1, h2, h3]
      · simp [h1, h2, h3]
    · simp [h1, h2]
  · simp [h1]

/-- What a good term is. -/
structure GoodT (op gv a b c : Int) (p : List UInt8) : Prop where
  op0 : 0 ≤ op
  op8 : op < 8
  g0 : 0 ≤ gv
  g3 : gv ≤ 3
  pa : gv < 3 → c = 0
  pr : gv < 3 → p = []
  mi : gv < 2 → b = 0
  ma : gv < 1 → a = 0
  gp : gPre p = true
  wild : gv = 0 → op = 0 ∨ op = 4 ∨ op = 6
  zero : gv = 3 → op = 6 → a = 0 → b = 0 → c ≠ 0

theorem gt_j3 (k : Nat) (fl : Bool) (op gv a b c : Int) (p : ByteArray) (hp : p.size ≤ 2147483647) (hk : 2 * p.size + 10 ≤ k) :
    ∃ r, spec_GoodTerm.j3 (k + 1) fl op gv a b c p = some r ∧ (r = true → fl = false ∧ gPre (bl p) = true) := by
  simp only [spec_GoodTerm.j3]
  cases fl with
  | true => exact ⟨false, rfl, by simp⟩
  | false =>
    rw [if_neg (by decide), toList_bl]
    unfold gPre
    by_cases h : bl p = []
    · rw [if_pos h, h]; exact ⟨true, rfl, fun _ => ⟨rfl, rfl⟩⟩
    · rw [if_neg h, validPre_f p (by omega) k (by omega), Option.bind_some]
      cases h1 : preOk (bl p)
      · exact ⟨false, rfl, by simp⟩
      · rw [if_pos rfl, smallPre_f p (by omega) k (by omega), Option.bind_some]
        exact ⟨_, rfl, fun e => ⟨rfl, by rw [e]; simp⟩⟩

theorem gt_j2 (k : Nat) (fl : Bool) (op gv a b c : Int) (p : ByteArray) (hp : p.size ≤ 2147483647) (hk : 2 * p.size + 10 ≤ k) :
    ∃ r, spec_GoodTerm.j2 (k + 2) fl op gv a b c p = some r ∧ (r = true → fl = false ∧ (gv < 3 → c = 0) ∧ (gv < 3 → bl p = []) ∧ (gv < 2 → b = 0) ∧ (gv < 1 → a = 0) ∧ gPre (bl p) = true) := by
  simp only [spec_GoodTerm.j2]
  cases fl with
  | true => exact ⟨false, rfl, by simp⟩
  | false =>
    rw [if_neg (by decide), toList_bl]
    repeat' split
    all_goals
      refine (gt_j3 k _ op gv a b c p hp hk).imp (fun r hr => ⟨hr.1, fun e => ?_⟩)
      obtain ⟨h1, h2⟩ := hr.2 e
      try rw [bne_eq_false_iff_eq] at h1
      first
        | exact absurd h1 (by decide)
        | exact ⟨rfl, by omega, (fun _ => by first | assumption | omega), by omega, by omega, h2⟩

theorem gt_j1 (k : Nat) (fl : Bool) (op gv a b c : Int) (p : ByteArray) (hp : p.size ≤ 2147483647) (hk : 2 * p.size + 10 ≤ k) :
    ∃ r, spec_GoodTerm.j1 (k + 3) fl op gv a b c p = some r ∧ (r = true → fl = false ∧ 0 ≤ op ∧ op < 8 ∧ 0 ≤ gv ∧ gv ≤ 3 ∧ (gv < 3 → c = 0) ∧ (gv < 3 → bl p = []) ∧ (gv < 2 → b = 0) ∧ (gv < 1 → a = 0) ∧ gPre (bl p) = true) := by
  simp only [spec_GoodTerm.j1]
  cases fl with
  | true => exact ⟨false, rfl, by simp⟩
  | false =>
    rw [if_neg (by decide)]
    repeat' split
    all_goals
      refine (gt_j2 k _ op gv a b c p hp hk).imp (fun r hr => ⟨hr.1, fun e => ?_⟩)
      obtain ⟨h1, h2⟩ := hr.2 e
      try rw [decide_eq_false_iff_not] at h1
      first
        | exact absurd h1 (by decide)
        | exact ⟨rfl, by omega, by omega, by omega, by omega, h2⟩

theorem gt_j0 (k : Nat) (fl : Bool) (op gv a b c : Int) (p : ByteArray) (hp : p.size ≤ 2147483647) (hk : 2 * p.size + 10 ≤ k) :
    ∃ r, spec_GoodTerm.j0 (k + 4) fl op gv a b c p = some r ∧ (r = true → (gv = 0 → op = 0 ∨ op = 4 ∨ op = 6) ∧ (gv = 3 → op = 6 → fl = false) ∧ 0 ≤ op ∧ op < 8 ∧ 0 ≤ gv ∧ gv ≤ 3 ∧ (gv < 3 → c = 0) ∧ (gv < 3 → bl p = []) ∧ (gv < 2 → b = 0) ∧ (gv < 1 → a = 0) ∧ gPre (bl p) = true) := by
  simp only [spec_GoodTerm.j0]
  repeat' split
  all_goals
    refine (gt_j1 k _ op gv a b c p hp hk).imp (fun r hr => ⟨hr.1, fun e => ?_⟩)
    obtain ⟨h1, h2⟩ := hr.2 e
    first
      | exact absurd h1 (by decide)
      | exact ⟨by omega, fun _ _ => by first | assumption | omega, h2⟩

theorem goodTerm_f (k : Nat) (op gv a b c : Int) (p : ByteArray) (hp : p.size ≤ 2147483647) (hk : 2 * p.size + 14 ≤ k) :
    ∃ r, spec_GoodTerm.f k op gv a b c p = some r ∧ (r = true → GoodT op gv a b c (bl p)) := by
  obtain ⟨k, rfl⟩ : ∃ m, k = m + 4 := ⟨k - 4, by omega⟩
  unfold spec_GoodTerm.f
  repeat' split
  all_goals
    refine (gt_j0 k _ op gv a b c p hp (by omega)).imp (fun r hr => ⟨hr.1, fun e => ?_⟩)
    obtain ⟨h1, h2, h3, h4, h5, h6, h7, h8, h9, h10, h11⟩ := hr.2 e
    refine ⟨h3, h4, h5, h6, h7, h8, h9, h10, h11, h1, fun e1 e2 e3 e4 => ?_⟩
    have := h2 e1 e2
    first
      | exact beq_eq_false_iff_ne.1 this
      | (exfalso; omega)

end Go.Proofs.YtllkoadcpobdaaaDoor.KX
namespace Go.Proofs.YtllkoadcpobdaaaDoor.KX

open Go Go.RowKit Go.Lib Go.Proofs Go.Proofs.YtllkoadcpobdaaaDoor.L Go.Proofs.YtllkoadcpobdaaaDoor.Bt Go.Proofs.YtllkoadcpobdaaaDoor.Parse Go.Proofs.YtllkoadcpobdaaaDoor.Part Go.Proofs.YtllkoadcpobdaaaDoor.Num Go.Proofs.YtllkoadcpobdaaaDoor.PX

theorem cpp_zero (p : List UInt8) (hg : goodP p = true) : 0 ≤ cpp p [48] := by
  obtain ⟨hn, hd⟩ := goodP_parts hg
  unfold cpp
  by_cases e : p = [48]
  · rw [if_pos e]; decide
  · rw [if_neg e, if_neg hn, if_neg (by simp)]
    have z : num [48] = some 0 := num_small [48] rfl (by simp)
    rw [z]
    cases da : digP p
    · rw [num_other p da]; simp
    · rw [num_small p da (hd da).1]
      show 0 ≤ (if 0 < valF 0 p then (1 : Int) else -1)
      have hv : 0 < valF 0 p := by
        have d1 := da
        unfold digP at d1
        rw [Bool.and_eq_true] at d1
        match p, hn, hd da, e, d1 with
        | [], h, _, _, _ => exact absurd rfl h
        | c :: r, _, h1, h2, h3 =>
          have hc : isDig c = true := by have := h3.1; rw [List.all_cons, Bool.and_eq_true] at this; exact this.1
          have hne : c ≠ 48 := by
            rintro rfl
            cases r with
            | nil => exact h2 rfl
            | cons d t => exact h1.2 (by simp) rfl
          have := valF_ge c r hc hne
          have h10 : 0 < 10 ^ r.length := Nat.pow_pos (by omega)
          omega
      rw [if_pos hv]; decide

theorem cpl_none (x : List (List UInt8)) (hx : ∀ p ∈ x, goodP p = true) : 0 ≤ cpl x [] := by
  cases x with
  | nil => rw [cpl]; decide
  | cons a t =>
    have ha := (goodP_parts (hx a (by simp))).1
    have e : cpp a [] = 1 := by unfold cpp; rw [if_neg ha, if_neg ha, if_pos rfl]
    rw [cpl, e]; simp

theorem cpl_zero (x : List (List UInt8)) (hx : ∀ p ∈ x, goodP p = true) (hn : x ≠ []) : 0 ≤ cpl x [[48]] := by
  cases x with
  | nil => exact absurd rfl hn
  | cons a t =>
    have h1 := cpp_zero a (hx a (by simp))
    rw [cpl]
    split
    · exact cpl_none t (fun p hp => hx p (by simp [hp]))
    · exact h1

theorem preAny_zero (l : List UInt8) (g : gPre l = true) : 0 ≤ preAny l [48] := by
  unfold preAny
  by_cases e : l = []
  · rw [if_pos e, if_neg (by simp)]; decide
  · rw [if_neg e, if_neg (by simp)]
    exact cpl_zero _ (gPre_parts g e) (splitL_ne _ _)

theorem ge_zero (v : Ver) (g : gPre (bl v.pre) = true) (n : Ver) (hn : bl n.pre = [48]) : 0 ≤ verC v n ↔ 0 ≤ numC 3 v.ma v.mi v.pa n.ma n.mi n.pa := by
  rw [verC_numC, hn]
  split
  · rename_i h
    rw [h]
    exact ⟨fun _ => Int.le_refl 0, fun _ => preAny_zero _ g⟩
  · rfl

end Go.Proofs.YtllkoadcpobdaaaDoor.KX
