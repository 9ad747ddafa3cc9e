/- A version's text tells its parts. Plain lists. -/
import Derived.Test.YtekmeoemnekmcaaDoorNum
import Derived.Lib.ItoaNum
namespace Go.Proofs.YtekmeoemnekmcaaDoor.L
open Go.Proofs.YtekmeoemnekmcaaDoor.Parse Go.Proofs.YtekmeoemnekmcaaDoor.Num

theorem decL_eq (n : Nat) : decL n = Lib.decDigits n := by
  induction n using Nat.strongRecOn with
  | _ n ih =>
    rw [decL, Lib.decDigits]
    by_cases h : n < 10
    · rw [if_pos h, dif_pos h]
    · rw [if_neg h, dif_neg h, ih _ (by omega)]
theorem dec_inj {n m : Nat} (h : Lib.decDigits n = Lib.decDigits m) : n = m := decL_inj (by rw [decL_eq, decL_eq, h])
theorem dec_dig (n : Nat) : ∀ x ∈ Lib.decDigits n, isDig x = true := by
  have := decL_dig n
  rw [decL_eq] at this
  exact List.all_eq_true.1 this
theorem dec_no (c : UInt8) (hc : isDig c = false) (n : Nat) : ∀ x ∈ Lib.decDigits n, x ≠ c := by
  intro x hx e
  have := dec_dig n x hx
  rw [e, hc] at this
  cases this
/-- Each byte of a text is the separator, or stands in one of the parts. -/
theorem split_mem (c : UInt8) : ∀ (l : List UInt8) (x : UInt8), x ∈ l → x = c ∨ ∃ p ∈ splitL c l, x ∈ p
  | [], x, h => by simp at h
  | y :: ys, x, h => by
    unfold splitL
    by_cases hy : y = c
    · rw [if_pos hy]
      rcases List.mem_cons.1 h with rfl | h
      · exact .inl hy
      · rcases split_mem c ys x h with e | ⟨p, hp, hx⟩
        · exact .inl e
        · exact .inr ⟨p, List.mem_cons_of_mem _ hp, hx⟩
    · rw [if_neg hy]
      cases e : splitL c ys with
      | nil => exact absurd e (splitL_ne c ys)
      | cons a t =>
        simp only
        rcases List.mem_cons.1 h with rfl | h
        · exact .inr ⟨x :: a, by simp, by simp⟩
        · rcases split_mem c ys x h with e' | ⟨p, hp, hx⟩
          · exact .inl e'
          · rw [e] at hp
            rcases List.mem_cons.1 hp with rfl | hp
            · exact .inr ⟨y :: p, by simp, by simp [hx]⟩
            · exact .inr ⟨p, by simp [hp], hx⟩
theorem meta_bytes (l : List UInt8) (h : metaOk l = true) : ∀ x ∈ l, isId x = true ∨ x = 46 := by
  intro x hx
  rcases split_mem 46 l x hx with e | ⟨p, hp, hxp⟩
  · exact .inr e
  · left
    have := List.all_eq_true.1 h p hp
    unfold metaP at this
    simp only [Bool.and_eq_true] at this
    exact List.all_eq_true.1 this.2 x hxp
theorem pre_meta (l : List UInt8) (h : preOk l = true) : metaOk l = true := by
  unfold preOk at h
  unfold metaOk
  rw [List.all_eq_true] at h ⊢
  intro p hp
  have := h p hp
  simp only [Bool.and_eq_true] at this
  exact this.1
theorem id_no (c : UInt8) (hc : isId c = false) (h46 : c ≠ 46) (l : List UInt8) (h : metaOk l = true) : ∀ x ∈ l, x ≠ c := by
  intro x hx e
  rcases meta_bytes l h x hx with h | h
  · rw [e, hc] at h; cases h
  · exact h46 (e ▸ h)
theorem split_ne_nil_parts (c : UInt8) (a b : List UInt8) (ha : ∀ x ∈ a, x ≠ c) : splitL c (a ++ c :: b) = a :: splitL c b := splitL_at c a b ha
/-- What stands ahead of the first c, and what stands behind. -/
theorem cut_inj (c : UInt8) (a a' t t' : List UInt8) (ha : ∀ x ∈ a, x ≠ c) (ha' : ∀ x ∈ a', x ≠ c) (ht : t = [] ∨ ∃ u, t = c :: u) (ht' : t' = [] ∨ ∃ u, t' = c :: u) (h : a ++ t = a' ++ t') : a = a' ∧ t = t' := by
  have hw : ∀ (a t : List UInt8), (∀ x ∈ a, x ≠ c) → (t = [] ∨ ∃ u, t = c :: u) → (a ++ t).takeWhile (fun x => x != c) = a := by
    intro a
    induction a with
    | nil =>
      intro t _ ht
      rcases ht with rfl | ⟨u, rfl⟩
      · rfl
      · simp
    | cons x xs ih =>
      intro t hx ht
      have h1 : (x != c) = true := bne_iff_ne.2 (hx x (by simp))
      rw [List.cons_append, List.takeWhile_cons, h1]
      simp only [if_true]
      rw [ih t (fun y hy => hx y (by simp [hy])) ht]
  have e : a = a' := by rw [← hw a t ha ht, h, hw a' t' ha' ht']
  subst e
  exact ⟨rfl, List.append_cancel_left h⟩
end Go.Proofs.YtekmeoemnekmcaaDoor.L
