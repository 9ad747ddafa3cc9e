/- The row and the tied card of FnSemverSetOriginal, out of its printed walk and its plain law. For every input that the statement lets in. -/
import Derived.Test.YtjgedenoaocfjaaGreatDoorZCardSemverSetOriginal4
import Derived.Test.YtjgedenoaocfjaaGreatDoorZCardSemverSetOriginal12
import Derived.Lib.ParseIntB
import Derived.Lib.ItoaNum
namespace Go.Proofs.YtjgedenoaocfjaaGreatDoor.L
end Go.Proofs.YtjgedenoaocfjaaGreatDoor.L
namespace Go.Proofs.YtjgedenoaocfjaaGreatDoor.Num
end Go.Proofs.YtjgedenoaocfjaaGreatDoor.Num
namespace Go.Proofs.YtjgedenoaocfjaaGreatDoor.Parse
end Go.Proofs.YtjgedenoaocfjaaGreatDoor.Parse
namespace Go.Proofs.YtjgedenoaocfjaaGreatDoor.Num

open Go.RowKit Go.Lib Go.Proofs.YtjgedenoaocfjaaGreatDoor.L Go.Proofs.YtjgedenoaocfjaaGreatDoor.Parse

def step (a : Nat) (c : UInt8) : Nat := a * 10 + (c.toNat - 48)

def valF (a : Nat) (l : List UInt8) : Nat := l.foldl step a

def top : Nat := 18446744073709551615

theorem valF_le (l : List UInt8) : ∀ a, a ≤ valF a l := by
  induction l with
  | nil => intro a; exact Nat.le_refl _
  | cons c r ih =>
    intro a
    have := ih (step a c)
    unfold step at this
    show a ≤ valF (step a c) r
    unfold step
    omega

theorem dig_iff (c : UInt8) : isDig c = true ↔ 48 ≤ c.toNat ∧ c.toNat ≤ 57 := by simp [isDig]

theorem parse_val : ∀ (l : List UInt8) (a : Nat), l.all isDig = true → valF a l ≤ top → Lib.parseUintM top a l = .ok (valF a l) := by
  intro l
  induction l with
  | nil => intro a _ _; rfl
  | cons c r ih =>
    intro a hd hv
    rw [List.all_cons, Bool.and_eq_true] at hd
    have hc := (dig_iff c).1 hd.1
    have hle := valF_le r (step a c)
    have hv' : valF (step a c) r ≤ top := hv
    have h2 : step a c ≤ top := Nat.le_trans hle hv'
    unfold step top at h2
    rw [Lib.parseUintM, if_pos hc, if_neg (by omega), if_neg (by unfold top; omega)]
    exact ih (step a c) hd.2 hv'

theorem parse_inv : ∀ (l : List UInt8) (a u : Nat), a ≤ top → Lib.parseUintM top a l = .ok u → l.all isDig = true ∧ u = valF a l ∧ u ≤ top := by
  intro l
  induction l with
  | nil => intro a u ha h; rw [Lib.parseUintM] at h; cases h; exact ⟨rfl, rfl, ha⟩
  | cons c r ih =>
    intro a u ha h
    rw [Lib.parseUintM] at h
    split at h
    · rename_i hc
      split at h
      · cases h
      · split at h
        · cases h
        · rename_i h3
          obtain ⟨h4, h5, h6⟩ := ih (step a c) u (by unfold step; omega) h
          refine ⟨?_, h5, h6⟩
          rw [List.all_cons, h4, (dig_iff c).2 hc]; rfl
    · cases h

theorem num_eq (l : List UInt8) : num l = if (l ≠ [] ∧ l.all isDig = true) ∧ valF 0 l ≤ top then some (valF 0 l) else none := by
  unfold num
  have ht : 2 ^ 64 - 1 = top := rfl
  by_cases h : (l ≠ [] ∧ l.all isDig = true) ∧ valF 0 l ≤ top
  · rw [if_pos h]
    have : Lib.parseUintB 64 l = .ok (valF 0 l) := by
      unfold Lib.parseUintB
      rw [if_neg h.1.1, ht]
      exact parse_val l 0 h.1.2 h.2
    rw [this]
  · rw [if_neg h]
    rcases hq : Lib.parseUintB 64 l with u | _ | _
    · exfalso
      unfold Lib.parseUintB at hq
      split at hq
      · cases hq
      · rename_i hne
        rw [ht] at hq
        obtain ⟨h1, h2, h3⟩ := parse_inv l 0 u (by unfold top; omega) hq
        exact h ⟨⟨hne, h1⟩, h2 ▸ h3⟩
    · rfl
    · rfl

/-- A number in decimal. -/
def decL (n : Nat) : List UInt8 := if n < 10 then [UInt8.ofNat (48 + n)] else decL (n / 10) ++ [UInt8.ofNat (48 + n % 10)]
termination_by n
decreasing_by omega

theorem dig_of (n : Nat) (h : n < 10) : isDig (UInt8.ofNat (48 + n)) = true := by
  rw [dig_iff, UInt8.toNat_ofNat']; omega

theorem decL_ne (n : Nat) : decL n ≠ [] := by
  unfold decL; split <;> simp

theorem decL_dig (n : Nat) : (decL n).all isDig = true := by
  induction n using Nat.strongRecOn with
  | ind n ih =>
    unfold decL
    split
    · rename_i h; rw [List.all_cons, dig_of n h]; rfl
    · rename_i h
      rw [List.all_append, ih (n / 10) (by omega)]
      rw [List.all_cons, dig_of (n % 10) (by omega)]; rfl

theorem decL_len : ∀ (k n : Nat), n < 10 ^ (k + 1) → (decL n).length ≤ k + 1 := by
  intro k
  induction k with
  | zero => intro n h; unfold decL; rw [if_pos (by omega)]; simp
  | succ k ih =>
    intro n h
    unfold decL
    split
    · simp
    · have := ih (n / 10) (by rw [Nat.pow_succ] at h; omega)
      rw [List.length_append]; simp; omega

end Go.Proofs.YtjgedenoaocfjaaGreatDoor.Num
namespace Go.Proofs.YtjgedenoaocfjaaGreatDoor.L

open Go.Proofs.YtjgedenoaocfjaaGreatDoor.Parse Go.Proofs.YtjgedenoaocfjaaGreatDoor.Num

theorem decL_eq (n : Nat) : decL n = Lib.decDigits n := by
  induction n using Nat.strongRecOn with
  | _ n ih =>
    rw [decL, Lib.decDigits]
    by_cases h : n < 10
    · rw [if_pos h, dif_pos h]
    · rw [if_neg h, dif_neg h, ih _ (by omega)]

theorem dec_dig (n : Nat) : ∀ x ∈ Lib.decDigits n, isDig x = true := by
  have := decL_dig n
  rw [decL_eq] at this
  exact List.all_eq_true.1 this

/-- Each byte of a text is the separator, or stands in one of the parts. -/
theorem split_mem (c : UInt8) : ∀ (l : List UInt8) (x : UInt8), x ∈ l → x = c ∨ ∃ p ∈ splitL c l, x ∈ p
  | [], x, h => by simp at h
  | y :: ys, x, h => by
    unfold splitL
    by_cases hy : y = c
    · rw [if_pos hy]
      rcases List.mem_cons.1 h with rfl | h
      · exact .inl hy
      · rcases split_mem c ys x h with e | ⟨p, hp, hx⟩
        · exact .inl e
        · exact .inr ⟨p, List.mem_cons_of_mem _ hp, hx⟩
    · rw [if_neg hy]
      cases e : splitL c ys with
      | nil => exact absurd e (splitL_ne c ys)
      | cons a t =>
        simp only
        rcases List.mem_cons.1 h with rfl | h
        · exact .inr ⟨x :: a, by simp, by simp⟩
        · rcases split_mem c ys x h with e' | ⟨p, hp, hx⟩
          · exact .inl e'
          · rw [e] at hp
            rcases List.mem_cons.1 hp with rfl | hp
            · exact .inr ⟨y :: p, by simp, by simp [hx]⟩
            · exact .inr ⟨p, by simp [hp], hx⟩

theorem meta_bytes (l : List UInt8) (h : metaOk l = true) : ∀ x ∈ l, isId x = true ∨ x = 46 := by
  intro x hx
  rcases split_mem 46 l x hx with e | ⟨p, hp, hxp⟩
  · exact .inr e
  · left
    have := List.all_eq_true.1 h p hp
    unfold metaP at this
    simp only [Bool.and_eq_true] at this
    exact List.all_eq_true.1 this.2 x hxp

theorem pre_meta (l : List UInt8) (h : preOk l = true) : metaOk l = true := by
  unfold preOk at h
  unfold metaOk
  rw [List.all_eq_true] at h ⊢
  intro p hp
  have := h p hp
  simp only [Bool.and_eq_true] at this
  exact this.1

end Go.Proofs.YtjgedenoaocfjaaGreatDoor.L
