/- What the printed spec.ValidMeta, spec.Good and svGood tell. -/
import Derived.Test.YtekmeoemnekmcaaDoorKVPreX
import Derived.Test.YtekmeoemnekmcaaDoorKShortX
namespace Go.Proofs.YtekmeoemnekmcaaDoor.KX
open Go.RowKit Go.Proofs.YtekmeoemnekmcaaDoor.L Go.Proofs.YtekmeoemnekmcaaDoor.Bt Go.Proofs.YtekmeoemnekmcaaDoor.PX
open Go.Proofs.YtekmeoemnekmcaaDoorW.PrintWords Go.Proofs.YtekmeoemnekmcaaDoorW.PrintLast Go.Proofs.YtekmeoemnekmcaaDoorW.PrintMore

theorem specMeta_l0 (l : List (List UInt8)) (B : Nat) (hB : B ≤ 1000000000) (hl : l.length ≤ 1000000001) (hp : ∀ p ∈ l, p.length ≤ B) : ∀ (d k i : Nat), l.length - i = d → i ≤ l.length → B + d < k →
    spec_ValidMeta.l0 k (l.map ofL) ((l.map ofL).length : Int) (i : Int) = some ((l.drop i).all metaP) := by
  intro d
  induction d with
  | zero =>
    intro k i hd hi hk
    obtain ⟨k, rfl⟩ : ∃ m, k = m + 1 := ⟨k - 1, by omega⟩
    simp only [spec_ValidMeta.l0, List.length_map]
    rw [if_neg (by omega), List.drop_of_length_le (by omega)]
    rfl
  | succ d ih =>
    intro k i hd hi hk
    obtain ⟨k, rfl⟩ : ∃ m, k = m + 1 := ⟨k - 1, by omega⟩
    have hlt : i < l.length := by omega
    have hq := hp _ (List.getElem_mem hlt)
    have ih2 := ih k (i + 1) (by omega) (by omega) (by omega)
    simp only [spec_ValidMeta.l0, List.length_map] at ih2 ⊢
    rw [if_pos (by omega), if_pos (by omega), if_pos (by omega), rd_map l i hlt, validIdent_f (ofL l[i]) (by rw [size_ofL]; omega) k (by rw [size_ofL]; omega), Option.bind_some, bl_ofL]
    rw [List.drop_eq_getElem_cons hlt, List.all_cons]
    cases metaP l[i]
    · simp
    · rw [if_pos rfl, w64 (by omega) (by omega), show ((i : Int) + 1) = ((i + 1 : Nat) : Int) by omega, ih2]
      simp

theorem specMeta_f (s : ByteArray) (hs : s.size ≤ 100000000) (k : Nat) (hk : 2 * s.size + 2 < k) : spec_ValidMeta.f k s = some (metaOk (bl s)) := by
  have hlen := splitL_len 46 (bl s)
  rw [bl_len] at hlen
  unfold spec_ValidMeta.f
  rw [identifiers_f s (by omega) _ (by omega), Option.bind_some]
  have := specMeta_l0 (splitL 46 (bl s)) s.size (by omega) (by omega) (fun p hp => by have := parts_le 46 _ p hp; rw [bl_len] at this; exact this) (splitL 46 (bl s)).length k 0 (by omega) (by omega) (by omega)
  rw [List.drop_zero] at this
  exact this

/-- Good parts: the prerelease empty or valid with no long number, the metadata empty or valid. -/
def partsOk (p m : List UInt8) : Bool := (p == [] || (preOk p && smallOk p)) && (m == [] || metaOk m)
theorem good_f (a b c : Int) (p m : ByteArray) (hp : p.size ≤ 65536) (hm : m.size ≤ 65536) (k : Nat) (hk : 140000 ≤ k) : spec_Good.f k a b c p m = some (partsOk (bl p) (bl m)) := by
  unfold spec_Good.f partsOk
  rw [toList_bl, toList_bl]
  by_cases h1 : bl p = []
  · rw [if_pos h1, h1]
    by_cases h2 : bl m = []
    · rw [if_pos h2, h2]; rfl
    · have e2 : (bl m == []) = false := beq_eq_false_iff_ne.2 h2
      rw [if_neg h2, specMeta_f m (by omega) k (by omega), e2]; rfl
  · have e1 : (bl p == []) = false := beq_eq_false_iff_ne.2 h1
    rw [if_neg h1, e1, validPre_f p (by omega) k (by omega), Option.bind_some]
    cases preOk (bl p)
    · rfl
    · rw [if_pos rfl, smallPre_f p (by omega) k (by omega), Option.bind_some]
      cases smallOk (bl p)
      · rfl
      · rw [if_pos rfl]
        by_cases h2 : bl m = []
        · rw [if_pos h2, h2]; rfl
        · have e2 : (bl m == []) = false := beq_eq_false_iff_ne.2 h2
          rw [if_neg h2, specMeta_f m (by omega) k (by omega), e2]; rfl
theorem short_two_f (s t : ByteArray) (k : Nat) : laws_svShort.f (k + 3) [s, t] = some (decide (s.size ≤ 65536) && decide (t.size ≤ 65536)) := by
  have e0 : rdOf ByteArray.empty [s, t] 0 = s := rfl
  have e1 : rdOf ByteArray.empty [s, t] 1 = t := rfl
  have w1 : wrap64 1 = 1 := by unfold wrap64; omega
  have w2 : wrap64 2 = 2 := by unfold wrap64; omega
  by_cases h : s.size ≤ 65536
  · skip
    by_cases h2 : t.size ≤ 65536
    · skip
      have f3 : ¬ (65536 < (s.size : Int)) := by omega
      have f4 : ¬ (65536 < (t.size : Int)) := by omega
      simp [laws_svShort.f, laws_svShort.l0, e0, e1, h, h2, w1, w2, f3, f4]
    · have f2 : (65536 : Int) < (t.size : Int) := by omega
      have f3 : ¬ (65536 < (s.size : Int)) := by omega
      simp [laws_svShort.f, laws_svShort.l0, e0, e1, h, h2, f2, w1, f3]
  · have f1 : (65536 : Int) < (s.size : Int) := by omega
    simp [laws_svShort.f, laws_svShort.l0, e0, h, f1]
/-- A version's parts, short and good. -/
def goodS (x : S28) : Bool := decide (x.f3.size ≤ 65536) && decide (x.f4.size ≤ 65536) && partsOk (bl x.f3) (bl x.f4)
theorem rdT_get (l : List S28) (i : Nat) (h : i < l.length) : rd_T28 l (i : Int) = l[i] := by
  unfold rd_T28
  rw [Int.toNat_natCast, List.getD_eq_getElem?_getD, List.getElem?_eq_getElem h]; rfl
theorem svGood_l0 (l : List S28) (hl : l.length ≤ 1000000000) : ∀ (d k i : Nat), l.length - i = d → i ≤ l.length → 140000 + d < k →
    laws_svGood.l0 k l (l.length : Int) (i : Int) = some ((l.drop i).all goodS) := by
  intro d
  induction d with
  | zero =>
    intro k i hd hi hk
    obtain ⟨k, rfl⟩ : ∃ m, k = m + 1 := ⟨k - 1, by omega⟩
    simp only [laws_svGood.l0]
    rw [if_neg (by omega), List.drop_of_length_le (by omega)]
    rfl
  | succ d ih =>
    intro k i hd hi hk
    obtain ⟨k, rfl⟩ : ∃ m, k = m + 1 := ⟨k - 1, by omega⟩
    have hlt : i < l.length := by omega
    have ih2 := ih k (i + 1) (by omega) (by omega) (by omega)
    simp only [laws_svGood.l0]
    rw [if_pos (by omega), if_pos (by omega), if_pos (by omega), rdT_get l i hlt]
    rw [show k = (k - 3) + 3 by omega, short_two_f, Option.bind_some, show k - 3 + 3 = k by omega]
    rw [List.drop_eq_getElem_cons hlt, List.all_cons]
    generalize l[i] = x at *
    unfold goodS
    by_cases h3 : x.f3.size ≤ 65536
    · by_cases h4 : x.f4.size ≤ 65536
      · rw [decide_eq_true h3, decide_eq_true h4]
        simp only [Bool.and_self, if_true, Bool.true_and]
        rw [good_f _ _ _ x.f3 x.f4 h3 h4 k (by omega), Option.bind_some]
        cases partsOk (bl x.f3) (bl x.f4)
        · rfl
        · rw [if_pos rfl, w64 (by omega) (by omega), show ((i : Int) + 1) = ((i + 1 : Nat) : Int) by omega, ih2]
          rw [Bool.true_and]; rfl
      · rw [decide_eq_false h4]; simp
    · rw [decide_eq_false h3]; simp
theorem svGood_k (l : List S28) (hl : l.length ≤ 1000000000) (k : Nat) (hk : 140000 + l.length < k) : laws_svGood.f k l = some (l.all goodS) := by
  have := svGood_l0 l hl l.length k 0 (by omega) (by omega) hk
  rw [List.drop_zero] at this
  exact this
theorem fits14_f (a0 a1 a2 : Int) (p m : ByteArray) : laws_zzFits14.f a0 a1 a2 p m = some (decide (p.size ≤ 2147483647) && decide (m.size ≤ 2147483647)) := by
  unfold laws_zzFits14.f
  by_cases h1 : p.size ≤ 2147483647
  · rw [if_neg (by omega), decide_eq_true h1]
    by_cases h2 : m.size ≤ 2147483647
    · rw [if_neg (by omega), decide_eq_true h2]; rfl
    · rw [if_pos (by omega), decide_eq_false h2]; rfl
  · rw [if_pos (by omega), decide_eq_false h1]; rfl
theorem svGood_f (l : List S28) (hl : l.length ≤ 1000000000) : laws_svGood.f (l.length + 140001) l = some (l.all goodS) := by
  have := svGood_l0 l hl l.length (l.length + 140001) 0 (by omega) (by omega) (by omega)
  rw [List.drop_zero] at this
  exact this
end Go.Proofs.YtekmeoemnekmcaaDoor.KX
