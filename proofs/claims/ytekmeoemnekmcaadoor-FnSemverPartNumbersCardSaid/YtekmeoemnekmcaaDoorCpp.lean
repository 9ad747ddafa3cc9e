/- Plain laws on how identifiers compare. -/
import Derived.Test.YtekmeoemnekmcaaDoorPart
import Derived.Test.YtekmeoemnekmcaaDoorNum
namespace Go.Proofs.YtekmeoemnekmcaaDoor.Num
open Go.RowKit Go.Lib Go.Proofs.YtekmeoemnekmcaaDoor.L Go.Proofs.YtekmeoemnekmcaaDoor.Parse Go.Proofs.YtekmeoemnekmcaaDoor.Part

theorem cpp_num (n m : Nat) (hn : n ≤ top) (hm : m ≤ top) : cpp (decL n) (decL m) = if n < m then -1 else if m < n then 1 else 0 := by
  unfold cpp
  by_cases h : n = m
  · subst h; simp
  · rw [if_neg (fun e => h (decL_inj e)), if_neg (decL_ne n), if_neg (decL_ne m), num_decL n hn, num_decL m hm]
    simp only
    split <;> split <;> (try omega) <;> rfl
theorem cpp_nw (n : Nat) (hn : n ≤ top) (l : List UInt8) (hl : l ≠ []) (hd : l.all isDig = false) : cpp (decL n) l = -1 ∧ cpp l (decL n) = 1 := by
  have hne : decL n ≠ l := fun e => by rw [← e, decL_dig] at hd; cases hd
  unfold cpp
  rw [if_neg hne, if_neg (decL_ne n), if_neg hl, if_neg (Ne.symm hne), if_neg hl, if_neg (decL_ne n), num_decL n hn, num_none l hd]
  exact ⟨rfl, rfl⟩
end Go.Proofs.YtekmeoemnekmcaaDoor.Num
