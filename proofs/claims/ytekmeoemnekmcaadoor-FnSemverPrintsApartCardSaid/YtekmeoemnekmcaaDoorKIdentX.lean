/- What the printed spec.Identifiers tells: the parts between the dots. -/
import Derived.Test.YtekmeoemnekmcaaDoorPXx2
import Derived.Test.YtekmeoemnekmcaaDoorBt
namespace Go.Proofs.YtekmeoemnekmcaaDoor.KX
open Go.RowKit Go.Proofs.YtekmeoemnekmcaaDoor.L Go.Proofs.YtekmeoemnekmcaaDoor.Bt Go.Proofs.YtekmeoemnekmcaaDoor.PX
open Go.Proofs.YtekmeoemnekmcaaDoorW.PrintWords Go.Proofs.YtekmeoemnekmcaaDoorW.PrintLast Go.Proofs.YtekmeoemnekmcaaDoorW.PrintMore

theorem identifiers_l0 (s : ByteArray) (hs : s.size ≤ 1000000000) : ∀ (d k i a : Nat) (acc : List ByteArray), s.size - i = d → i ≤ s.size → a ≤ i → d < k → acc.length ≤ i →
    ∀ h t, splitL 46 ((bl s).drop i) = h :: t →
    spec_Identifiers.l0 k s acc (a : Int) (i : Int) = some (acc ++ ofL ((((bl s).drop a).take (i - a)) ++ h) :: t.map ofL) := by
  intro d
  induction d with
  | zero =>
    intro k i a acc hd hi ha hk hac h t e
    obtain ⟨k, rfl⟩ : ∃ m, k = m + 1 := ⟨k - 1, by omega⟩
    simp only [spec_Identifiers.l0]
    rw [if_neg (by omega), if_pos (by omega), if_pos (by omega), if_pos (by omega), Int.toNat_natCast, extract_end]
    rw [List.drop_of_length_le (by rw [bl_len]; omega)] at e
    simp only [splitL, List.cons.injEq] at e
    obtain ⟨rfl, rfl⟩ := e
    rw [List.take_of_length_le (by rw [List.length_drop, bl_len]; omega)]
    simp
  | succ d ih =>
    intro k i a acc hd hi ha hk hac h t e
    obtain ⟨k, rfl⟩ : ∃ m, k = m + 1 := ⟨k - 1, by omega⟩
    have hlt : i < s.size := by omega
    simp only [spec_Identifiers.l0]
    rw [if_pos (by omega), if_pos (by omega), bt_bl s i hlt]
    rw [drop_bl s i hlt, splitL] at e
    by_cases hc : (bl s)[i]'(by rw [bl_len]; exact hlt) = 46
    · rw [if_pos hc] at e
      simp only [List.cons.injEq] at e
      obtain ⟨rfl, rfl⟩ := e
      rw [if_pos (by rw [hc]; rfl), if_pos (by omega), if_pos (by omega), if_pos (by omega), if_pos (by omega), w64 (by omega) (by omega)]
      rw [show ((i : Int) + 1) = ((i + 1 : Nat) : Int) by omega, Int.toNat_natCast, Int.toNat_natCast, extract_ofL]
      obtain ⟨h', t', e'⟩ : ∃ h' t', splitL 46 ((bl s).drop (i + 1)) = h' :: t' := by
        cases q : splitL 46 ((bl s).drop (i + 1)) with
        | nil => exact absurd q (splitL_ne _ _)
        | cons h' t' => exact ⟨h', t', rfl⟩
      rw [ih k (i + 1) (i + 1) _ (by omega) (by omega) (by omega) (by omega) (by rw [List.length_append]; simp; omega) h' t' e', e']
      simp
    · rw [if_neg hc] at e
      obtain ⟨h', t', e'⟩ : ∃ h' t', splitL 46 ((bl s).drop (i + 1)) = h' :: t' := by
        cases q : splitL 46 ((bl s).drop (i + 1)) with
        | nil => exact absurd q (splitL_ne _ _)
        | cons h' t' => exact ⟨h', t', rfl⟩
      rw [e'] at e
      simp only [List.cons.injEq] at e
      obtain ⟨rfl, rfl⟩ := e
      rw [if_neg (by intro q; apply hc; apply UInt8.toNat_inj.1; show _ = 46; omega), w64 (by omega) (by omega), show ((i : Int) + 1) = ((i + 1 : Nat) : Int) by omega]
      rw [ih k (i + 1) a _ (by omega) (by omega) (by omega) (by omega) (by omega) h' t' e', take_snoc (bl s) a i (by rw [bl_len]; exact hlt) ha]
      simp

theorem identifiers_f (s : ByteArray) (hs : s.size ≤ 1000000000) (k : Nat) (hk : s.size < k) : spec_Identifiers.f k s = some ((splitL 46 (bl s)).map ofL) := by
  cases q : splitL 46 (bl s) with
  | nil => exact absurd q (splitL_ne _ _)
  | cons h t =>
    have := identifiers_l0 s hs s.size k 0 0 [] (by omega) (by omega) (by omega) hk (by simp) h t (by simpa using q)
    rw [List.nil_append, List.drop_zero, Nat.sub_zero, List.take_zero, List.nil_append] at this
    exact this

end Go.Proofs.YtekmeoemnekmcaaDoor.KX
