/- What the printed spec.Decimal tells: the number in decimal. -/
import Derived.Test.YtekmeoemnekmcaaDoorQFnSemverPartNumbersx1
import Derived.Test.YtekmeoemnekmcaaDoorNum
import Derived.Test.YtekmeoemnekmcaaDoorBt
namespace Go.Proofs.YtekmeoemnekmcaaDoor.KFnSemverPartNumbers
open Go.RowKit Go.Proofs.YtekmeoemnekmcaaDoor.L Go.Proofs.YtekmeoemnekmcaaDoor.Bt Go.Proofs.YtekmeoemnekmcaaDoor.Num Go.Proofs.YtekmeoemnekmcaaDoor.PFnSemverPartNumbers
open Go.Proofs.YtekmeoemnekmcaaDoorW.PrintWords Go.Proofs.YtekmeoemnekmcaaDoorW.PrintLast Go.Proofs.YtekmeoemnekmcaaDoorW.PrintMore

theorem one_num (n : Nat) (h : n < 10) : strOfNums [(48 + ((n : Int) % 256)) % 256] = ofL [UInt8.ofNat (48 + n)] := by
  have : (48 + ((n : Int) % 256)) % 256 = ((48 + n : Nat) : Int) := by omega
  rw [this]
  rfl

theorem decimal_f : ∀ (k n : Nat), n < 18446744073709551616 → n < 10 ^ (k + 1) → k < 30 → spec_Decimal.f (k + 1) (n : Int) = some (ofL (decL n)) := by
  intro k
  induction k with
  | zero =>
    intro n hn h _
    unfold spec_Decimal.f decL
    rw [if_pos (by omega), if_pos (by omega), one_num n (by omega)]
  | succ k ih =>
    intro n hn h hk
    unfold spec_Decimal.f
    by_cases h10 : n < 10
    · unfold decL
      rw [if_pos (by omega), if_pos h10, one_num n h10]
    · have e1 : IntKind.u64.wrap (Int.tdiv (n : Int) 10) = ((n / 10 : Nat) : Int) := by
        rw [show Int.tdiv (n : Int) 10 = ((n / 10 : Nat) : Int) from rfl]
        have e0 : ∀ x : Int, IntKind.u64.wrap x = x % 18446744073709551616 := fun x => by simp [IntKind.wrap, IntKind.bits, IntKind.signed]
        rw [e0]; omega
      have e2 : Int.tmod (n : Int) 10 = ((n % 10 : Nat) : Int) := rfl
      have hl := decL_len k (n / 10) (by rw [Nat.pow_succ] at h; omega)
      rw [if_neg (by omega), e1, e2, ih (n / 10) (by omega) (by rw [Nat.pow_succ] at h; omega) (by omega), Option.bind_some, Option.bind_some, one_num (n % 10) (by omega)]
      rw [if_pos (by rw [size_ofL, size_ofL]; simp; omega)]
      conv => rhs; unfold decL
      rw [if_neg h10]
      rfl
end Go.Proofs.YtekmeoemnekmcaaDoor.KFnSemverPartNumbers
