/- The row and the tied card of FnSemverTermFromZero, out of its printed walk and its plain law. For every input that the statement lets in. -/
import Derived.Test.YtllkoadcpobdaaaDoorZCardSemverTermFromZero6
import Derived.Test.YtllkoadcpobdaaaDoorZCardSemverTermFromZero8
import Derived.Test.YtllkoadcpobdaaaDoorZCardSemverTermFromZero15
import Derived.Test.YtllkoadcpobdaaaDoorZCardSemverTermFromZero19
import Derived.Test.YtllkoadcpobdaaaDoorZCardSemverTermFromZero25
namespace Go.Proofs.YtllkoadcpobdaaaDoor.Bt
end Go.Proofs.YtllkoadcpobdaaaDoor.Bt
namespace Go.Proofs.YtllkoadcpobdaaaDoor.L
end Go.Proofs.YtllkoadcpobdaaaDoor.L
namespace Go.Proofs.YtllkoadcpobdaaaDoor.Num
end Go.Proofs.YtllkoadcpobdaaaDoor.Num
namespace Go.Proofs.YtllkoadcpobdaaaDoor.PX
end Go.Proofs.YtllkoadcpobdaaaDoor.PX
namespace Go.Proofs.YtllkoadcpobdaaaDoor.Parse
end Go.Proofs.YtllkoadcpobdaaaDoor.Parse
namespace Go.Proofs.YtllkoadcpobdaaaDoor.Part
end Go.Proofs.YtllkoadcpobdaaaDoor.Part
namespace Go.Proofs.YtllkoadcpobdaaaDoor.KX

open Go Go.RowKit Go.Lib Go.Proofs Go.Proofs.YtllkoadcpobdaaaDoor.L Go.Proofs.YtllkoadcpobdaaaDoor.Bt Go.Proofs.YtllkoadcpobdaaaDoor.Parse Go.Proofs.YtllkoadcpobdaaaDoor.Part Go.Proofs.YtllkoadcpobdaaaDoor.Num Go.Proofs.YtllkoadcpobdaaaDoor.PX

open Go.Proofs.YtllkoadcpobdaaaDoorW.PrintWords Go.Proofs.YtllkoadcpobdaaaDoorW.PrintLast Go.Proofs.YtllkoadcpobdaaaDoorW.PrintMore

/-- A good prerelease: none, or a valid one of small numbers. -/
def gPre (l : List UInt8) : Bool := l == [] || (preOk l && smallOk l)

theorem gPre_parts {l : List UInt8} (h : gPre l = true) (hn : l ≠ []) : ∀ p ∈ splitL 46 l, goodP p = true := by
  unfold gPre preOk smallOk at h
  rw [Bool.or_eq_true, beq_iff_eq] at h
  rcases h with h | h
  · exact absurd h hn
  · rw [Bool.and_eq_true, List.all_eq_true, List.all_eq_true] at h
    intro p hp
    have h1 := h.1 p hp
    have h2 := h.2 p hp
    unfold goodP
    rw [h1, Bool.true_and]
    exact h2

end Go.Proofs.YtllkoadcpobdaaaDoor.KX
namespace Go.Proofs.YtllkoadcpobdaaaDoor.KX

open Go Go.RowKit Go.Lib Go.Proofs Go.Proofs.YtllkoadcpobdaaaDoor.L Go.Proofs.YtllkoadcpobdaaaDoor.Bt Go.Proofs.YtllkoadcpobdaaaDoor.Parse Go.Proofs.YtllkoadcpobdaaaDoor.Part Go.Proofs.YtllkoadcpobdaaaDoor.Num Go.Proofs.YtllkoadcpobdaaaDoor.PX

open Go.Proofs.YtllkoadcpobdaaaDoorW.PrintWords Go.Proofs.YtllkoadcpobdaaaDoorW.PrintLast Go.Proofs.YtllkoadcpobdaaaDoorW.PrintMore

theorem ordI_nat (a b : Nat) : ordI (a : Int) (b : Int) = segC a b := by
  unfold ordI segC
  by_cases h1 : a < b
  · rw [if_pos (by omega), if_pos h1]
  · rw [if_neg (by omega), if_neg h1]
    by_cases h2 : b < a
    · rw [if_pos (by omega), if_pos h2]
    · rw [if_neg (by omega), if_neg h2]

/-- The first n numbers compared. -/
def numC (n : Int) (a b c a' b' c' : Nat) : Int := if 0 < n ∧ segC a a' ≠ 0 then segC a a' else if 1 < n ∧ segC b b' ≠ 0 then segC b b' else if 2 < n ∧ segC c c' ≠ 0 then segC c c' else 0

theorem cmpFrom_nat (n : Int) (a b c a' b' c' : Nat) : cmpFrom n 0 (a : Int) b c a' b' c' = numC n a b c a' b' c' := by
  unfold cmpFrom numC
  rw [ordI_nat, ordI_nat, ordI_nat]
  simp

theorem numbers_f (a b c a' b' c' : Nat) (p m p' m' : ByteArray) (n : Int) : spec_CompareNumbers.f (a : Int) b c p m (a' : Int) b' c' p' m' n = some (numC n a b c a' b' c') := by
  unfold spec_CompareNumbers.f
  rw [cmpFrom_nat]

theorem verC_numC (v w : Ver) : verC v w = if numC 3 v.ma v.mi v.pa w.ma w.mi w.pa = 0 then preAny (bl v.pre) (bl w.pre) else numC 3 v.ma v.mi v.pa w.ma w.mi w.pa := by
  unfold verC numC
  by_cases h1 : segC v.ma w.ma = 0
  · by_cases h2 : segC v.mi w.mi = 0
    · by_cases h3 : segC v.pa w.pa = 0
      · simp [h1, h2, h3]
      · simp [h1, h2, h3]
    · simp [h1, h2]
  · simp [h1]

/-- What a good term is. -/
structure GoodT (op gv a b c : Int) (p : List UInt8) : Prop where
  op0 : 0 ≤ op
  op8 : op < 8
  g0 : 0 ≤ gv
  g3 : gv ≤ 3
  pa : gv < 3 → c = 0
  pr : gv < 3 → p = []
  mi : gv < 2 → b = 0
  ma : gv < 1 → a = 0
  gp : gPre p = true
  wild : gv = 0 → op = 0 ∨ op = 4 ∨ op = 6
  zero : gv = 3 → op = 6 → a = 0 → b = 0 → c ≠ 0

end Go.Proofs.YtllkoadcpobdaaaDoor.KX
namespace Go.Proofs.YtllkoadcpobdaaaDoor.KX

open Go Go.RowKit Go.Lib Go.Proofs Go.Proofs.YtllkoadcpobdaaaDoor.L Go.Proofs.YtllkoadcpobdaaaDoor.Bt Go.Proofs.YtllkoadcpobdaaaDoor.Parse Go.Proofs.YtllkoadcpobdaaaDoor.Part Go.Proofs.YtllkoadcpobdaaaDoor.Num Go.Proofs.YtllkoadcpobdaaaDoor.PX

theorem cpp_zero (p : List UInt8) (hg : goodP p = true) : 0 ≤ cpp p [48] := by
  obtain ⟨hn, hd⟩ := goodP_parts hg
  unfold cpp
  by_cases e : p = [48]
  · rw [if_pos e]; decide
  · rw [if_neg e, if_neg hn, if_neg (by simp)]
    have z : num [48] = some 0 := num_small [48] rfl (by simp)
    rw [z]
    cases da : digP p
    · rw [num_other p da]; simp
    · rw [num_small p da (hd da).1]
      show 0 ≤ (if 0 < valF 0 p then (1 : Int) else -1)
      have hv : 0 < valF 0 p := by
        have d1 := da
        unfold digP at d1
        rw [Bool.and_eq_true] at d1
        match p, hn, hd da, e, d1 with
        | [], h, _, _, _ => exact absurd rfl h
        | c :: r, _, h1, h2, h3 =>
          have hc : isDig c = true := by have := h3.1; rw [List.all_cons, Bool.and_eq_true] at this; exact this.1
          have hne : c ≠ 48 := by
            rintro rfl
            cases r with
            | nil => exact h2 rfl
            | cons d t => exact h1.2 (by simp) rfl
          have := valF_ge c r hc hne
          have h10 : 0 < 10 ^ r.length := Nat.pow_pos (by omega)
          omega
      rw [if_pos hv]; decide

theorem cpl_none (x : List (List UInt8)) (hx : ∀ p ∈ x, goodP p = true) : 0 ≤ cpl x [] := by
  cases x with
  | nil => rw [cpl]; decide
  | cons a t =>
    have ha := (goodP_parts (hx a (by simp))).1
    have e : cpp a [] = 1 := by unfold cpp; rw [if_neg ha, if_neg ha, if_pos rfl]
    rw [cpl, e]; simp

theorem cpl_zero (x : List (List UInt8)) (hx : ∀ p ∈ x, goodP p = true) (hn : x ≠ []) : 0 ≤ cpl x [[48]] := by
  cases x with
  | nil => exact absurd rfl hn
  | cons a t =>
    have h1 := cpp_zero a (hx a (by simp))
    rw [cpl]
    split
    · exact cpl_none t (fun p hp => hx p (by simp [hp]))
    · exact h1

theorem preAny_zero (l : List UInt8) (g : gPre l = true) : 0 ≤ preAny l [48] := by
  unfold preAny
  by_cases e : l = []
  · rw [if_pos e, if_neg (by simp)]; decide
  · rw [if_neg e, if_neg (by simp)]
    exact cpl_zero _ (gPre_parts g e) (splitL_ne _ _)

theorem ge_zero (v : Ver) (g : gPre (bl v.pre) = true) (n : Ver) (hn : bl n.pre = [48]) : 0 ≤ verC v n ↔ 0 ≤ numC 3 v.ma v.mi v.pa n.ma n.mi n.pa := by
  rw [verC_numC, hn]
  split
  · rename_i h
    rw [h]
    exact ⟨fun _ => Int.le_refl 0, fun _ => preAny_zero _ g⟩
  · rfl

end Go.Proofs.YtllkoadcpobdaaaDoor.KX
