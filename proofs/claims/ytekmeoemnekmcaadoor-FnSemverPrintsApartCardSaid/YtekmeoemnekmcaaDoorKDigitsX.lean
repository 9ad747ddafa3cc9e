/- What the printed spec.isDigit and spec.Digits tell. -/
import Derived.Test.YtekmeoemnekmcaaDoorPXx2
import Derived.Test.YtekmeoemnekmcaaDoorBt
namespace Go.Proofs.YtekmeoemnekmcaaDoor.KX
open Go.RowKit Go.Proofs.YtekmeoemnekmcaaDoor.L Go.Proofs.YtekmeoemnekmcaaDoor.Bt Go.Proofs.YtekmeoemnekmcaaDoor.PX
open Go.Proofs.YtekmeoemnekmcaaDoorW.PrintWords Go.Proofs.YtekmeoemnekmcaaDoorW.PrintLast Go.Proofs.YtekmeoemnekmcaaDoorW.PrintMore

theorem isDigit_f (b : UInt8) : spec_isDigit.f (b.toNat : Int) = some (isDig b) := by
  unfold spec_isDigit.f isDig
  have e2 : ((b.toNat : Int) ≤ 57) ↔ b.toNat ≤ 57 := by omega
  by_cases h1 : 48 ≤ b.toNat
  · rw [if_pos (by omega)]; simp [h1, e2]
  · rw [if_neg (by omega)]; simp [h1]
theorem digits_l0 (s : ByteArray) (hs : s.size ≤ 1000000000) : ∀ (d k i : Nat), s.size - i = d → i ≤ s.size → d < k →
    spec_Digits.l0 k s (i : Int) = some (((bl s).drop i).all isDig && !(bl s == [])) := by
  intro d
  induction d with
  | zero =>
    intro k i hd hi hk
    obtain ⟨k, rfl⟩ : ∃ m, k = m + 1 := ⟨k - 1, by omega⟩
    simp only [spec_Digits.l0]
    rw [if_neg (by omega), List.drop_of_length_le (by rw [bl_len]; omega), neNil_bl]
    simp
  | succ d ih =>
    intro k i hd hi hk
    obtain ⟨k, rfl⟩ : ∃ m, k = m + 1 := ⟨k - 1, by omega⟩
    have hlt : i < s.size := by omega
    simp only [spec_Digits.l0]
    rw [if_pos (by omega), if_pos (by omega), bt_bl s i hlt, isDigit_f, Option.bind_some, drop_bl s i hlt, List.all_cons]
    cases isDig _
    · simp
    · rw [w64 (by omega) (by omega), show ((i : Int) + 1) = ((i + 1 : Nat) : Int) by omega, ih k (i + 1) (by omega) (by omega) (by omega)]
      simp
theorem digits_f (s : ByteArray) (hs : s.size ≤ 1000000000) (k : Nat) (hk : s.size < k) : spec_Digits.f k s = some ((bl s).all isDig && !(bl s == [])) := by
  have := digits_l0 s hs s.size k 0 (by omega) (by omega) hk
  rw [List.drop_zero] at this
  exact this
end Go.Proofs.YtekmeoemnekmcaaDoor.KX
