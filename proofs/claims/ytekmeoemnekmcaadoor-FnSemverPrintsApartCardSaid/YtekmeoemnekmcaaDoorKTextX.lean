/- What the printed Version.String tells: the text of a version. -/
import Derived.Test.YtekmeoemnekmcaaDoorPXx6
import Derived.Test.YtekmeoemnekmcaaDoorEFmt
import Derived.Test.YtekmeoemnekmcaaDoorBt
namespace Go.Proofs.YtekmeoemnekmcaaDoor.KX
open Go.RowKit Go.Lib Go.Proofs.YtekmeoemnekmcaaDoor.L Go.Proofs.YtekmeoemnekmcaaDoor.Bt Go.Proofs.YtekmeoemnekmcaaDoor.PX
open Go.Proofs.YtekmeoemnekmcaaDoorW.PrintWords Go.Proofs.YtekmeoemnekmcaaDoorW.PrintLast Go.Proofs.YtekmeoemnekmcaaDoorW.PrintMore

/-- A version as it is printed. -/
def verText (a b c : Nat) (p m : List UInt8) : List UInt8 :=
  Lib.decDigits a ++ [46] ++ Lib.decDigits b ++ [46] ++ Lib.decDigits c ++ (if p = [] then [] else 45 :: p) ++ (if m = [] then [] else 43 :: m)
theorem digits20 (a : Nat) (h : a ≤ 18446744073709551615) : (Lib.decDigits a).length ≤ 20 := by
  rw [Lib.decDigits_length]
  by_cases h1 : a = 0
  · subst h1; rw [Lib.nDigits_small (by omega)]; omega
  · have := Lib.numDigits_eq a (by omega) (by omega)
    split at this <;> omega
theorem fmt_f (a : Nat) (h : a ≤ 18446744073709551615) : strconv_FormatUint.f (a : Int) 10 = some (ofL (Lib.decDigits a)) := by
  unfold strconv_FormatUint.f
  rw [if_pos ⟨by omega, by omega, rfl⟩]
  rfl
theorem string_f (a b c : Nat) (p m o : ByteArray) (ha : a ≤ 18446744073709551615) (hb : b ≤ 18446744073709551615) (hc : c ≤ 18446744073709551615) (hp : p.size ≤ 1000000000000) (hm : m.size ≤ 1000000000000) :
    semver_Version_String.f a b c p m o = some (ofL (verText a b c (bl p) (bl m))) := by
  have na := digits20 a ha
  have nb := digits20 b hb
  have nc := digits20 c hc
  unfold semver_Version_String.f verText
  rw [fmt_f a ha, Option.bind_some, if_pos (by simp only [size_ofL]; omega)]
  rw [fmt_f b hb, Option.bind_some, if_pos (by simp only [ByteArray.size_append, size_ofL, szL1]; omega), if_pos (by simp only [ByteArray.size_append, size_ofL, szL1]; omega)]
  rw [fmt_f c hc, Option.bind_some, if_pos (by simp only [ByteArray.size_append, size_ofL, szL1]; omega)]
  rw [toList_bl, toList_bl]
  by_cases h1 : bl p = []
  · rw [if_pos h1, if_pos h1]
    by_cases h2 : bl m = []
    · rw [if_pos h2, if_pos h2]
      exact congrArg some (bl_inj (by simp [bl, ofL]))
    · rw [if_neg h2, if_neg h2, if_pos (by omega), if_pos (by simp only [ByteArray.size_append, size_ofL, szL1]; omega)]
      exact congrArg some (bl_inj (by simp [bl, ofL]))
  · rw [if_neg h1, if_neg h1, if_pos (by omega), if_pos (by simp only [ByteArray.size_append, size_ofL, szL1]; omega)]
    by_cases h2 : bl m = []
    · rw [if_pos h2, if_pos h2]
      exact congrArg some (bl_inj (by simp [bl, ofL]))
    · rw [if_neg h2, if_neg h2, if_pos (by omega), if_pos (by simp only [ByteArray.size_append, size_ofL, szL1]; omega)]
      exact congrArg some (bl_inj (by simp [bl, ofL]))
end Go.Proofs.YtekmeoemnekmcaaDoor.KX
