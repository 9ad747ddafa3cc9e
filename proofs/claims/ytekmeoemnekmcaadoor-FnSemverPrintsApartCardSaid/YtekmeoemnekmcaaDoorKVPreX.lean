/- What the printed spec.ValidPre and spec.SmallPre tell. -/
import Derived.Test.YtekmeoemnekmcaaDoorKVIdentX
import Derived.Test.YtekmeoemnekmcaaDoorKIdentX
namespace Go.Proofs.YtekmeoemnekmcaaDoor.KX
open Go.RowKit Go.Proofs.YtekmeoemnekmcaaDoor.L Go.Proofs.YtekmeoemnekmcaaDoor.Bt Go.Proofs.YtekmeoemnekmcaaDoor.PX
open Go.Proofs.YtekmeoemnekmcaaDoorW.PrintWords Go.Proofs.YtekmeoemnekmcaaDoorW.PrintLast Go.Proofs.YtekmeoemnekmcaaDoorW.PrintMore

/-- A part of digits alone with 20 of them or more. -/
def longP (p : List UInt8) : Bool := p.all isDig && !(p == []) && decide (19 < p.length)
def smallOk (l : List UInt8) : Bool := (splitL 46 l).all (fun p => !longP p)

theorem validPre_l0 (l : List (List UInt8)) (B : Nat) (hB : B ≤ 1000000000) (hl : l.length ≤ 1000000001) (hp : ∀ p ∈ l, p.length ≤ B) : ∀ (d k i : Nat), l.length - i = d → i ≤ l.length → B + d < k →
    spec_ValidPre.l0 k (l.map ofL) ((l.map ofL).length : Int) (i : Int) = some ((l.drop i).all (fun p => metaP p && !zeroP p)) := by
  intro d
  induction d with
  | zero =>
    intro k i hd hi hk
    obtain ⟨k, rfl⟩ : ∃ m, k = m + 1 := ⟨k - 1, by omega⟩
    simp only [spec_ValidPre.l0, List.length_map]
    rw [if_neg (by omega), List.drop_of_length_le (by omega)]
    rfl
  | succ d ih =>
    intro k i hd hi hk
    obtain ⟨k, rfl⟩ : ∃ m, k = m + 1 := ⟨k - 1, by omega⟩
    have hlt : i < l.length := by omega
    have hq := hp _ (List.getElem_mem hlt)
    have ih2 := ih k (i + 1) (by omega) (by omega) (by omega)
    simp only [spec_ValidPre.l0, List.length_map] at ih2 ⊢
    rw [if_pos (by omega), if_pos (by omega), if_pos (by omega), rd_map l i hlt, validIdent_f (ofL l[i]) (by rw [size_ofL]; omega) k (by rw [size_ofL]; omega), Option.bind_some, bl_ofL]
    rw [digits_f (ofL l[i]) (by rw [size_ofL]; omega) k (by rw [size_ofL]; omega), Option.bind_some, bl_ofL]
    rw [List.drop_eq_getElem_cons hlt, List.all_cons, w64 (by omega) (by omega), show ((i : Int) + 1) = ((i + 1 : Nat) : Int) by omega, ih2]
    rw [size_ofL]
    generalize hpp : l[i] = p at *
    unfold zeroP
    cases hm : metaP p
    · simp
    · rw [if_pos rfl, Bool.true_and]
      cases hd : (p.all isDig && !(p == []))
      · simp
      · rw [if_pos rfl, Bool.true_and]
        by_cases h1 : 1 < p.length
        · have e : bt (ofL p) 0 = (((p.headD 0).toNat : Nat) : Int) := by
            have h0 : 0 < (ofL p).size := by rw [size_ofL]; omega
            have h2 := head_bl (ofL p) h0
            have h3 : bt (ofL p) ((0 : Nat) : Int) = _ := bt_bl (ofL p) 0 h0
            rw [get_bl (ofL p) 0 h0, ← h2] at h3
            exact h3
          rw [if_pos (by omega), if_pos (by omega), e, decide_eq_true h1, Bool.true_and]
          cases h48 : (p.headD 0 == 48)
          · have : ¬ (((p.headD 0).toNat : Int) = 48) := by
              rw [beq_eq_false_iff_ne] at h48
              intro q; apply h48; apply UInt8.toNat_inj.1; show _ = 48; omega
            rw [if_neg this]; simp
          · have : (((p.headD 0).toNat : Int) = 48) := by
              rw [beq_iff_eq] at h48; rw [h48]; rfl
            rw [if_pos this]; simp
        · rw [if_neg (by omega), decide_eq_false h1]; simp

theorem validPre_f (s : ByteArray) (hs : s.size ≤ 100000000) (k : Nat) (hk : 2 * s.size + 2 < k) : spec_ValidPre.f k s = some (preOk (bl s)) := by
  have hlen := splitL_len 46 (bl s)
  rw [bl_len] at hlen
  unfold spec_ValidPre.f
  rw [identifiers_f s (by omega) _ (by omega), Option.bind_some]
  have := validPre_l0 (splitL 46 (bl s)) s.size (by omega) (by omega) (fun p hp => by have := parts_le 46 _ p hp; rw [bl_len] at this; exact this) (splitL 46 (bl s)).length k 0 (by omega) (by omega) (by omega)
  rw [List.drop_zero] at this
  exact this

theorem smallPre_l0 (l : List (List UInt8)) (B : Nat) (hB : B ≤ 1000000000) (hl : l.length ≤ 1000000001) (hp : ∀ p ∈ l, p.length ≤ B) : ∀ (d k i : Nat), l.length - i = d → i ≤ l.length → B + d < k →
    spec_SmallPre.l0 k (l.map ofL) ((l.map ofL).length : Int) (i : Int) = some ((l.drop i).all (fun p => !longP p)) := by
  intro d
  induction d with
  | zero =>
    intro k i hd hi hk
    obtain ⟨k, rfl⟩ : ∃ m, k = m + 1 := ⟨k - 1, by omega⟩
    simp only [spec_SmallPre.l0, List.length_map]
    rw [if_neg (by omega), List.drop_of_length_le (by omega)]
    rfl
  | succ d ih =>
    intro k i hd hi hk
    obtain ⟨k, rfl⟩ : ∃ m, k = m + 1 := ⟨k - 1, by omega⟩
    have hlt : i < l.length := by omega
    have hq := hp _ (List.getElem_mem hlt)
    have ih2 := ih k (i + 1) (by omega) (by omega) (by omega)
    simp only [spec_SmallPre.l0, List.length_map] at ih2 ⊢
    rw [if_pos (by omega), if_pos (by omega), if_pos (by omega), rd_map l i hlt, digits_f (ofL l[i]) (by rw [size_ofL]; omega) k (by rw [size_ofL]; omega), Option.bind_some, bl_ofL]
    rw [List.drop_eq_getElem_cons hlt, List.all_cons, w64 (by omega) (by omega), show ((i : Int) + 1) = ((i + 1 : Nat) : Int) by omega, ih2, size_ofL]
    unfold longP
    cases hd : (l[i].all isDig && !(l[i] == []))
    · simp
    · rw [if_pos rfl]
      by_cases h1 : 19 < l[i].length
      · rw [if_pos (by omega), decide_eq_true h1]; simp
      · rw [if_neg (by omega), decide_eq_false h1]; simp

theorem smallPre_f (s : ByteArray) (hs : s.size ≤ 100000000) (k : Nat) (hk : 2 * s.size + 2 < k) : spec_SmallPre.f k s = some (smallOk (bl s)) := by
  have hlen := splitL_len 46 (bl s)
  rw [bl_len] at hlen
  unfold spec_SmallPre.f
  rw [identifiers_f s (by omega) _ (by omega), Option.bind_some]
  have := smallPre_l0 (splitL 46 (bl s)) s.size (by omega) (by omega) (fun p hp => by have := parts_le 46 _ p hp; rw [bl_len] at this; exact this) (splitL 46 (bl s)).length k 0 (by omega) (by omega) (by omega)
  rw [List.drop_zero] at this
  exact this
end Go.Proofs.YtekmeoemnekmcaaDoor.KX
