/- What the printed spec.ValidIdent tells. -/
import Derived.Test.YtekmeoemnekmcaaDoorKDigitsX
namespace Go.Proofs.YtekmeoemnekmcaaDoor.KX
open Go.RowKit Go.Proofs.YtekmeoemnekmcaaDoor.L Go.Proofs.YtekmeoemnekmcaaDoor.Bt Go.Proofs.YtekmeoemnekmcaaDoor.PX
open Go.Proofs.YtekmeoemnekmcaaDoorW.PrintWords Go.Proofs.YtekmeoemnekmcaaDoorW.PrintLast Go.Proofs.YtekmeoemnekmcaaDoorW.PrintMore

theorem isIdent_f (b : UInt8) : spec_isIdent.f (b.toNat : Int) = some (isId b) := by
  unfold spec_isIdent.f isId
  rw [isDigit_f, Option.bind_some]
  cases isDig b
  · simp only [Bool.false_eq_true, if_false, Bool.false_or]
    have e : ((b.toNat : Int) == 45) = (b == 45) := by
      rw [Bool.eq_iff_iff, beq_iff_eq, beq_iff_eq]
      constructor
      · intro h; apply UInt8.toNat_inj.1; show _ = 45; omega
      · intro h; rw [h]; rfl
    rw [e]
    have a1 : ((65 : Int) ≤ (b.toNat : Int)) ↔ 65 ≤ b.toNat := by omega
    have a2 : ((b.toNat : Int) ≤ 90) ↔ b.toNat ≤ 90 := by omega
    have a3 : ((97 : Int) ≤ (b.toNat : Int)) ↔ 97 ≤ b.toNat := by omega
    have a4 : ((b.toNat : Int) ≤ 122) ↔ b.toNat ≤ 122 := by omega
    simp only [a1, a2, a3, a4]
    by_cases h1 : 65 ≤ b.toNat <;> by_cases h2 : b.toNat ≤ 90 <;> by_cases h3 : 97 ≤ b.toNat <;> by_cases h4 : b.toNat ≤ 122 <;> simp [h1, h2, h3, h4]
  · simp

theorem validIdent_l0 (s : ByteArray) (hs : s.size ≤ 1000000000) : ∀ (d k i : Nat), s.size - i = d → i ≤ s.size → d < k →
    spec_ValidIdent.l0 k s (i : Int) = some (((bl s).drop i).all isId && !(bl s == [])) := by
  intro d
  induction d with
  | zero =>
    intro k i hd hi hk
    obtain ⟨k, rfl⟩ : ∃ m, k = m + 1 := ⟨k - 1, by omega⟩
    simp only [spec_ValidIdent.l0]
    rw [if_neg (by omega), List.drop_of_length_le (by rw [bl_len]; omega), neNil_bl]
    simp
  | succ d ih =>
    intro k i hd hi hk
    obtain ⟨k, rfl⟩ : ∃ m, k = m + 1 := ⟨k - 1, by omega⟩
    have hlt : i < s.size := by omega
    simp only [spec_ValidIdent.l0]
    rw [if_pos (by omega), if_pos (by omega), bt_bl s i hlt, isIdent_f, Option.bind_some, drop_bl s i hlt, List.all_cons]
    cases isId _
    · simp
    · rw [w64 (by omega) (by omega), show ((i : Int) + 1) = ((i + 1 : Nat) : Int) by omega, ih k (i + 1) (by omega) (by omega) (by omega)]
      simp

theorem validIdent_f (s : ByteArray) (hs : s.size ≤ 1000000000) (k : Nat) (hk : s.size < k) : spec_ValidIdent.f k s = some (metaP (bl s)) := by
  have := validIdent_l0 s hs s.size k 0 (by omega) (by omega) hk
  rw [List.drop_zero] at this
  unfold metaP
  rw [Bool.and_comm]
  exact this
end Go.Proofs.YtekmeoemnekmcaaDoor.KX
