/- The row and the tied card of FnSemverKindOfNext, out of its printed walk and its plain law. For every input that the statement lets in. -/
import Derived.Test.YtnncjgoogjookaaDoorZCardSemverKindOfNext13
import Derived.Laws.RangeAny
import Derived.Laws.RangeString
namespace Go.Proofs.YtnncjgoogjookaaDoor.RuneSem
end Go.Proofs.YtnncjgoogjookaaDoor.RuneSem
namespace Go.Proofs.YtnncjgoogjookaaDoor.Ascii

open Go.RowKit Go.Lib Go.Proofs Go.Proofs.YtnncjgoogjookaaDoor.RuneSem

theorem from_none (p : Nat → Bool) (s : ByteArray) (hp : ∀ c, 128 ≤ c → p c = true) : ∀ (f pos : Nat), s.size ≤ pos + f →
    (Lib.idxFuncFrom p true s f pos = -1 ↔ ∀ j (h : j < s.size), pos ≤ j → p (s[j]'h).toNat = false)
  | 0, pos, hf => by
    simp only [Lib.idxFuncFrom, true_iff]
    intro j h hj; omega
  | f + 1, pos, hf => by
    unfold Lib.idxFuncFrom
    by_cases hps : pos < s.size
    · rw [if_pos hps]
      by_cases ha : (s[pos]'hps).toNat < 128
      · rw [decode_ascii s pos hps ha]
        simp only
        by_cases hb : p (s[pos]'hps).toNat = true
        · rw [if_pos hb]
          constructor
          · intro h; omega
          · intro h; have := h pos hps (Nat.le_refl _); rw [this] at hb; cases hb
        · rw [if_neg hb, from_none p s hp f (pos + 1) (by omega)]
          constructor
          · intro h j hj hpj
            by_cases e : j = pos
            · subst e; simpa using hb
            · exact h j hj (by omega)
          · intro h j hj hpj; exact h j hj (by omega)
      · obtain ⟨h1, h2⟩ := decode_high s pos hps (by omega)
        rw [if_pos (hp _ h1)]
        constructor
        · intro h; omega
        · intro h; have := h pos hps (Nat.le_refl _); rw [hp _ (by omega)] at this; cases this
    · rw [if_neg hps]
      simp only [true_iff]
      intro j h hj; omega

theorem idx_none (p : Nat → Bool) (s : ByteArray) (hp : ∀ c, 128 ≤ c → p c = true) : Lib.idxFunc p true s = -1 ↔ ∀ b ∈ s.data.toList, p b.toNat = false := by
  unfold Lib.idxFunc
  rw [from_none p s hp s.size 0 (by omega)]
  constructor
  · intro h b hb
    obtain ⟨j, hj, rfl⟩ := List.mem_iff_getElem.1 hb
    exact h j (by simpa using hj) (Nat.zero_le _)
  · intro h j hj _
    exact h _ (List.mem_iff_getElem.2 ⟨j, by simpa using hj, rfl⟩)

theorem from_some (x : Nat) (s : ByteArray) (hs : ∀ j (h : j < s.size), (s[j]'h).toNat < 128) : ∀ (f pos : Nat), s.size ≤ pos + f →
    (0 ≤ Lib.idxFuncFrom (fun c => decide (c = x)) true s f pos ↔ ∃ j, ∃ h : j < s.size, pos ≤ j ∧ (s[j]'h).toNat = x)
  | 0, pos, hf => by
    simp only [Lib.idxFuncFrom]
    constructor
    · intro h; omega
    · rintro ⟨j, h, hj, _⟩; omega
  | f + 1, pos, hf => by
    unfold Lib.idxFuncFrom
    by_cases hps : pos < s.size
    · rw [if_pos hps, decode_ascii s pos hps (hs pos hps)]
      simp only [decide_eq_true_eq]
      by_cases hb : (s[pos]'hps).toNat = x
      · rw [if_pos hb]
        constructor
        · intro _; exact ⟨pos, hps, Nat.le_refl _, hb⟩
        · intro _; omega
      · rw [if_neg hb, from_some x s hs f (pos + 1) (by omega)]
        constructor
        · rintro ⟨j, hj, h1, h2⟩; exact ⟨j, hj, by omega, h2⟩
        · rintro ⟨j, hj, h1, h2⟩
          refine ⟨j, hj, ?_, h2⟩
          by_cases e : j = pos
          · subst e; exact absurd h2 hb
          · omega
    · rw [if_neg hps]
      constructor
      · intro h; omega
      · rintro ⟨j, h, hj, _⟩; omega

theorem idx_some (x : Nat) (s : ByteArray) (hs : ∀ b ∈ s.data.toList, b.toNat < 128) : 0 ≤ Lib.idxFunc (fun c => decide (c = x)) true s ↔ ∃ b ∈ s.data.toList, b.toNat = x := by
  unfold Lib.idxFunc
  rw [from_some x s (fun j h => hs _ (List.mem_iff_getElem.2 ⟨j, by simpa using h, rfl⟩)) s.size 0 (by omega)]
  constructor
  · rintro ⟨j, h, _, e⟩; exact ⟨_, List.mem_iff_getElem.2 ⟨j, by simpa using h, rfl⟩, e⟩
  · rintro ⟨b, hb, e⟩
    obtain ⟨j, hj, rfl⟩ := List.mem_iff_getElem.1 hb
    exact ⟨j, by simpa using hj, Nat.zero_le _, e⟩

theorem has_ascii (x : Nat) (s : ByteArray) (hs : ∀ b ∈ s.data.toList, b.toNat < 128) : has s x = s.data.toList.any (fun b => b.toNat == x) := by
  unfold has
  rw [Bool.eq_iff_iff]
  by_cases h : 55296 ≤ x ∧ x ≤ 57343
  · rw [if_pos h]
    simp only [Bool.false_eq_true, List.any_eq_true, beq_iff_eq, false_iff, not_exists, not_and]
    intro b hb e; have := hs b hb; omega
  · rw [if_neg h, decide_eq_true_eq, idx_some x s hs]
    simp only [List.any_eq_true, beq_iff_eq]

/-- The code's containsOnly. -/
def only (s comp : ByteArray) : Bool := decide (Lib.idxFunc (fun x => !has comp x) true s = -1)

theorem only_ascii (s comp : ByteArray) (hs : ∀ b ∈ comp.data.toList, b.toNat < 128) : only s comp = s.data.toList.all (fun b => comp.data.toList.contains b) := by
  unfold only
  rw [Bool.eq_iff_iff, decide_eq_true_eq, idx_none _ _ (fun c hc => by
    rw [has_ascii c comp hs]
    simp only [Bool.not_eq_true', List.any_eq_false, beq_iff_eq]
    intro b hb e; have := hs b hb; omega)]
  simp only [List.all_eq_true, List.contains_iff_mem, Bool.not_eq_false']
  constructor
  · intro h b hb
    have := h b hb
    rw [has_ascii _ comp hs, List.any_eq_true] at this
    obtain ⟨c, hc, e⟩ := this
    have : c = b := UInt8.toNat_inj.1 (by simpa using e)
    exact this ▸ hc
  · intro h b hb
    rw [has_ascii _ comp hs, List.any_eq_true]
    exact ⟨b, h b hb, by simp⟩

end Go.Proofs.YtnncjgoogjookaaDoor.Ascii
