/- The row and the tied card of FnSemverSetOriginal, out of its printed walk and its plain law. For every input that the statement lets in. -/
import Derived.Test.YtjgedenoaocfjaaGreatDoorZCardSemverSetOriginal8
import Derived.Test.YtjgedenoaocfjaaGreatDoorZCardSemverSetOriginal9
import Derived.Test.YtjgedenoaocfjaaGreatDoorZCardSemverSetOriginal13
import Derived.Test.YtjgedenoaocfjaaGreatDoorZCardSemverSetOriginal24
import Derived.Test.YtjgedenoaocfjaaGreatDoorZCardSemverSetOriginal26
namespace Go.Proofs.YtjgedenoaocfjaaGreatDoor.Bt
end Go.Proofs.YtjgedenoaocfjaaGreatDoor.Bt
namespace Go.Proofs.YtjgedenoaocfjaaGreatDoor.L
end Go.Proofs.YtjgedenoaocfjaaGreatDoor.L
namespace Go.Proofs.YtjgedenoaocfjaaGreatDoor.Num
end Go.Proofs.YtjgedenoaocfjaaGreatDoor.Num
namespace Go.Proofs.YtjgedenoaocfjaaGreatDoor.PX
end Go.Proofs.YtjgedenoaocfjaaGreatDoor.PX
namespace Go.Proofs.YtjgedenoaocfjaaGreatDoor.KX

open Go.RowKit Go.Lib Go.Proofs.YtjgedenoaocfjaaGreatDoor Go.Proofs.YtjgedenoaocfjaaGreatDoor.L Go.Proofs.YtjgedenoaocfjaaGreatDoor.Bt Go.Proofs.YtjgedenoaocfjaaGreatDoor.Num Go.Proofs.YtjgedenoaocfjaaGreatDoor.PX

open Go.Proofs.YtjgedenoaocfjaaGreatDoorW.PrintWords Go.Proofs.YtjgedenoaocfjaaGreatDoorW.PrintLast Go.Proofs.YtjgedenoaocfjaaGreatDoorW.PrintMore

theorem decimal_k (n : Nat) (h : n ≤ 18446744073709551615) (k : Nat) : spec_Decimal.f (k + 20) (n : Int) = some (ofL (Lib.decDigits n)) := by
  rw [← decL_eq]
  induction k with
  | zero => exact decimal_f 19 n (by omega) (by omega) (by omega)
  | succ k ih =>
    rw [show k + 1 + 20 = (k + 20) + 1 by omega]
    exact spec_Decimal.mono _ _ _ ih

theorem vtext_f (a b c : Nat) (p m : ByteArray) (ha : a ≤ 18446744073709551615) (hb : b ≤ 18446744073709551615) (hc : c ≤ 18446744073709551615) (hp : p.size ≤ 1000000000000) (hm : m.size ≤ 1000000000000) (k : Nat) (hk : 20 ≤ k) :
    spec_VersionText.f k a b c p m = some (ofL (verText a b c (bl p) (bl m))) := by
  obtain ⟨k, rfl⟩ : ∃ m, k = m + 20 := ⟨k - 20, by omega⟩
  have na := digits20 a ha
  have nb := digits20 b hb
  have nc := digits20 c hc
  unfold spec_VersionText.f verText
  rw [decimal_k a ha, Option.bind_some, if_pos (by simp only [size_ofL]; omega)]
  rw [decimal_k b hb, Option.bind_some, if_pos (by simp only [ByteArray.size_append, size_ofL, szL1]; omega), if_pos (by simp only [ByteArray.size_append, size_ofL, szL1]; omega)]
  rw [decimal_k c hc, Option.bind_some, if_pos (by simp only [ByteArray.size_append, size_ofL, szL1]; omega)]
  rw [toList_bl, toList_bl]
  by_cases h1 : bl p = []
  · rw [if_pos h1, if_pos h1]
    by_cases h2 : bl m = []
    · rw [if_pos h2, if_pos h2]
      exact congrArg some (bl_inj (by simp [bl, ofL]))
    · rw [if_neg h2, if_neg h2, if_pos (by omega), if_pos (by simp only [ByteArray.size_append, size_ofL, szL1]; omega)]
      exact congrArg some (bl_inj (by simp [bl, ofL]))
  · rw [if_neg h1, if_neg h1, if_pos (by omega), if_pos (by simp only [ByteArray.size_append, size_ofL, szL1]; omega)]
    by_cases h2 : bl m = []
    · rw [if_pos h2, if_pos h2]
      exact congrArg some (bl_inj (by simp [bl, ofL]))
    · rw [if_neg h2, if_neg h2, if_pos (by omega), if_pos (by simp only [ByteArray.size_append, size_ofL, szL1]; omega)]
      exact congrArg some (bl_inj (by simp [bl, ofL]))

end Go.Proofs.YtjgedenoaocfjaaGreatDoor.KX
