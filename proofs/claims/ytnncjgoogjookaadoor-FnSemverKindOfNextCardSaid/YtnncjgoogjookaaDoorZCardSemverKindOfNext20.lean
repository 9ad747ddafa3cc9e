/- The row and the tied card of FnSemverKindOfNext, out of its printed walk and its plain law. For every input that the statement lets in. -/
import Derived.Test.YtnncjgoogjookaaDoorZCardSemverKindOfNext4
import Derived.Test.YtnncjgoogjookaaDoorZCardSemverKindOfNext19
import Derived.Lib.ParseIntB
namespace Go.Proofs.YtnncjgoogjookaaDoor.L
end Go.Proofs.YtnncjgoogjookaaDoor.L
namespace Go.Proofs.YtnncjgoogjookaaDoor.Parse
end Go.Proofs.YtnncjgoogjookaaDoor.Parse
namespace Go.Proofs.YtnncjgoogjookaaDoor.Num

open Go.RowKit Go.Lib Go.Proofs.YtnncjgoogjookaaDoor.L Go.Proofs.YtnncjgoogjookaaDoor.Parse

def step (a : Nat) (c : UInt8) : Nat := a * 10 + (c.toNat - 48)

def valF (a : Nat) (l : List UInt8) : Nat := l.foldl step a

def top : Nat := 18446744073709551615

theorem valF_le (l : List UInt8) : ∀ a, a ≤ valF a l := by
  induction l with
  | nil => intro a; exact Nat.le_refl _
  | cons c r ih =>
    intro a
    have := ih (step a c)
    unfold step at this
    show a ≤ valF (step a c) r
    unfold step
    omega

theorem dig_iff (c : UInt8) : isDig c = true ↔ 48 ≤ c.toNat ∧ c.toNat ≤ 57 := by simp [isDig]

theorem parse_val : ∀ (l : List UInt8) (a : Nat), l.all isDig = true → valF a l ≤ top → Lib.parseUintM top a l = .ok (valF a l) := by
  intro l
  induction l with
  | nil => intro a _ _; rfl
  | cons c r ih =>
    intro a hd hv
    rw [List.all_cons, Bool.and_eq_true] at hd
    have hc := (dig_iff c).1 hd.1
    have hle := valF_le r (step a c)
    have hv' : valF (step a c) r ≤ top := hv
    have h2 : step a c ≤ top := Nat.le_trans hle hv'
    unfold step top at h2
    rw [Lib.parseUintM, if_pos hc, if_neg (by omega), if_neg (by unfold top; omega)]
    exact ih (step a c) hd.2 hv'

theorem parse_inv : ∀ (l : List UInt8) (a u : Nat), a ≤ top → Lib.parseUintM top a l = .ok u → l.all isDig = true ∧ u = valF a l ∧ u ≤ top := by
  intro l
  induction l with
  | nil => intro a u ha h; rw [Lib.parseUintM] at h; cases h; exact ⟨rfl, rfl, ha⟩
  | cons c r ih =>
    intro a u ha h
    rw [Lib.parseUintM] at h
    split at h
    · rename_i hc
      split at h
      · cases h
      · split at h
        · cases h
        · rename_i h3
          obtain ⟨h4, h5, h6⟩ := ih (step a c) u (by unfold step; omega) h
          refine ⟨?_, h5, h6⟩
          rw [List.all_cons, h4, (dig_iff c).2 hc]; rfl
    · cases h

theorem num_eq (l : List UInt8) : num l = if (l ≠ [] ∧ l.all isDig = true) ∧ valF 0 l ≤ top then some (valF 0 l) else none := by
  unfold num
  have ht : 2 ^ 64 - 1 = top := rfl
  by_cases h : (l ≠ [] ∧ l.all isDig = true) ∧ valF 0 l ≤ top
  · rw [if_pos h]
    have : Lib.parseUintB 64 l = .ok (valF 0 l) := by
      unfold Lib.parseUintB
      rw [if_neg h.1.1, ht]
      exact parse_val l 0 h.1.2 h.2
    rw [this]
  · rw [if_neg h]
    rcases hq : Lib.parseUintB 64 l with u | _ | _
    · exfalso
      unfold Lib.parseUintB at hq
      split at hq
      · cases hq
      · rename_i hne
        rw [ht] at hq
        obtain ⟨h1, h2, h3⟩ := parse_inv l 0 u (by unfold top; omega) hq
        exact h ⟨⟨hne, h1⟩, h2 ▸ h3⟩
    · rfl
    · rfl

end Go.Proofs.YtnncjgoogjookaaDoor.Num
