/- The row and the tied card of FnSemverKindOfNext, out of its printed walk and its plain law. For every input that the statement lets in. -/
import Derived.Test.YtnncjgoogjookaaDoorZCardSemverKindOfNext7
import Derived.Test.YtnncjgoogjookaaDoorZCardSemverKindOfNext9
import Derived.Test.YtnncjgoogjookaaDoorZCardSemverKindOfNext20
namespace Go.Proofs.YtnncjgoogjookaaDoor.Bt
end Go.Proofs.YtnncjgoogjookaaDoor.Bt
namespace Go.Proofs.YtnncjgoogjookaaDoor.L
end Go.Proofs.YtnncjgoogjookaaDoor.L
namespace Go.Proofs.YtnncjgoogjookaaDoor.Num
end Go.Proofs.YtnncjgoogjookaaDoor.Num
namespace Go.Proofs.YtnncjgoogjookaaDoor.PX
end Go.Proofs.YtnncjgoogjookaaDoor.PX
namespace Go.Proofs.YtnncjgoogjookaaDoor.Parse
end Go.Proofs.YtnncjgoogjookaaDoor.Parse
namespace Go.Proofs.YtnncjgoogjookaaDoor.KX

open Go.RowKit Go.Proofs.YtnncjgoogjookaaDoor.L Go.Proofs.YtnncjgoogjookaaDoor.Bt Go.Proofs.YtnncjgoogjookaaDoor.PX Go.Proofs.YtnncjgoogjookaaDoor.Parse Go.Proofs.YtnncjgoogjookaaDoor.Num

open Go.Proofs.YtnncjgoogjookaaDoorW.PrintWords Go.Proofs.YtnncjgoogjookaaDoorW.PrintLast Go.Proofs.YtnncjgoogjookaaDoorW.PrintMore

theorem validMeta_l0 (l : List (List UInt8)) (B : Nat) (hB : B ≤ 2147483647) (hl : l.length ≤ 2147483648) (hp : ∀ p ∈ l, p.length ≤ B) : ∀ (d k i : Nat), l.length - i = d → i ≤ l.length → B + d < k →
    spec_ValidMeta.l0 k (l.map ofL) ((l.map ofL).length : Int) (i : Int) = some ((l.drop i).all metaP) := by
  intro d
  induction d with
  | zero =>
    intro k i hd hi hk
    obtain ⟨k, rfl⟩ : ∃ m, k = m + 1 := ⟨k - 1, by omega⟩
    simp only [spec_ValidMeta.l0, List.length_map]
    rw [if_neg (by omega), List.drop_of_length_le (by omega)]
    rfl
  | succ d ih =>
    intro k i hd hi hk
    obtain ⟨k, rfl⟩ : ∃ m, k = m + 1 := ⟨k - 1, by omega⟩
    have hlt : i < l.length := by omega
    have hq := hp _ (List.getElem_mem hlt)
    have ih2 := ih k (i + 1) (by omega) (by omega) (by omega)
    simp only [spec_ValidMeta.l0, List.length_map] at ih2 ⊢
    rw [if_pos (by omega), if_pos (by omega), if_pos (by omega), rd_map l i hlt, validIdent_f (ofL l[i]) (by rw [size_ofL]; omega) k (by rw [size_ofL]; omega), Option.bind_some, bl_ofL]
    rw [List.drop_eq_getElem_cons hlt, List.all_cons, w64 (by omega) (by omega), show ((i : Int) + 1) = ((i + 1 : Nat) : Int) by omega, ih2]
    cases metaP l[i] <;> simp

theorem validMeta_f (s : ByteArray) (hs : s.size ≤ 2147483647) (k : Nat) (hk : 2 * s.size + 2 < k) : spec_ValidMeta.f k s = some (metaOk (bl s)) := by
  have hlen := splitL_len 46 (bl s)
  rw [bl_len] at hlen
  unfold spec_ValidMeta.f
  rw [identifiers_f s (by omega) _ (by omega), Option.bind_some]
  have := validMeta_l0 (splitL 46 (bl s)) s.size (by omega) (by omega) (fun p hp => by have := parts_le 46 _ p hp; rw [bl_len] at this; exact this) (splitL 46 (bl s)).length k 0 (by omega) (by omega) (by omega)
  rw [List.drop_zero] at this
  exact this

/-- A text parted at its first byte c. -/
def cutL (c : UInt8) (l : List UInt8) : List UInt8 × List UInt8 × Bool := match fst c l with
  | none => (l, [], false)
  | some j => (l.take j, l.drop (j + 1), true)

theorem cutAt_l0 (s : ByteArray) (c : UInt8) (hs : s.size ≤ 2147483647) : ∀ (d k i : Nat), s.size - i = d → i ≤ s.size → d < k → (∀ x ∈ (bl s).take i, x ≠ c) →
    spec_cutAt.l0 k s (c.toNat : Int) (i : Int) = some (let r := cutL c (bl s); (ofL r.1, ofL r.2.1, r.2.2)) := by
  intro d
  induction d with
  | zero =>
    intro k i hd hi hk hn
    obtain ⟨k, rfl⟩ : ∃ m, k = m + 1 := ⟨k - 1, by omega⟩
    simp only [spec_cutAt.l0]
    rw [if_neg (by omega)]
    have hall : fst c (bl s) = none := by
      cases e : fst c (bl s) with
      | none => rfl
      | some j =>
        obtain ⟨h1, h2, h3⟩ := fst_some c _ _ e
        rw [List.take_of_length_le (by rw [bl_len]; omega)] at hn
        exact absurd rfl (hn c (by rw [h2]; simp))
    unfold cutL
    rw [hall]
    show _ = some (ofL (bl s), ofL [], false)
    rw [ofL_bl]
    rfl
  | succ d ih =>
    intro k i hd hi hk hn
    obtain ⟨k, rfl⟩ : ∃ m, k = m + 1 := ⟨k - 1, by omega⟩
    have hlt : i < s.size := by omega
    have hb := bt_bl s i hlt
    simp only [spec_cutAt.l0]
    rw [if_pos (by omega), if_pos (by omega), hb]
    by_cases e : (bl s)[i]'(by rw [bl_len]; exact hlt) = c
    · rw [if_pos (by rw [e]), if_pos (by omega), w64 (by omega) (by omega), if_pos (by omega), if_pos (by omega)]
      have hf : fst c (bl s) = some i := by
        cases e2 : fst c (bl s) with
        | none => exact absurd e (fst_none c _ e2 _ (List.getElem_mem _))
        | some j =>
          obtain ⟨h1, h2, h3⟩ := fst_some c _ _ e2
          rcases Nat.lt_trichotomy i j with h | h | h
          · have hm : (bl s)[i]'(by rw [bl_len]; exact hlt) ∈ (bl s).take j := by
              rw [List.mem_take_iff_getElem]
              exact ⟨i, by rw [bl_len] at *; omega, rfl⟩
            exact absurd e (h3 _ hm)
          · rw [h]
          · have hm : c ∈ (bl s).take i := by
              rw [List.mem_take_iff_getElem]
              refine ⟨j, by rw [bl_len] at *; omega, ?_⟩
              have h4 : (bl s)[j]? = some c := by
                rw [h2, List.getElem?_append_right (by rw [List.length_take]; omega), List.length_take, Nat.min_eq_left (by omega), Nat.sub_self]; rfl
              rw [List.getElem?_eq_getElem h1] at h4
              exact Option.some.inj h4
            exact absurd rfl (hn c hm)
      unfold cutL
      rw [hf]
      dsimp only
      rw [Int.toNat_natCast, extract_head, show ((i : Int) + 1).toNat = i + 1 by omega, extract_end]
    · rw [if_neg (fun h => e (UInt8.toNat_inj.1 (by omega))), w64 (by omega) (by omega)]
      refine ih k (i + 1) (by omega) (by omega) (by omega) fun x hx => ?_
      rw [List.take_succ_eq_append_getElem (by rw [bl_len]; exact hlt)] at hx
      rcases List.mem_append.1 hx with h | h
      · exact hn x h
      · simp at h; rw [h]; exact e

theorem cutAt_f (s : ByteArray) (c : UInt8) (hs : s.size ≤ 2147483647) (k : Nat) (hk : s.size < k) : spec_cutAt.f k s (c.toNat : Int) = some (let r := cutL c (bl s); (ofL r.1, ofL r.2.1, r.2.2)) :=
  cutAt_l0 s c hs s.size k 0 (by omega) (by omega) hk (fun x hx => by simp at hx)

theorem cutL_len (c : UInt8) (l : List UInt8) : (cutL c l).1.length ≤ l.length ∧ (cutL c l).2.1.length ≤ l.length := by
  unfold cutL
  cases fst c l with
  | none => exact ⟨Nat.le_refl _, Nat.zero_le _⟩
  | some j => exact ⟨by rw [List.length_take]; omega, by rw [List.length_drop]; omega⟩

theorem number_l0 (s : ByteArray) (hs : s.size ≤ 2147483647) (hall : (bl s).all isDig = true) : ∀ (d k i a : Nat), s.size - i = d → i ≤ s.size → d < k → a ≤ top →
    spec_Number.l0 k s (a : Int) (i : Int) = some (if valF a ((bl s).drop i) ≤ top then (((valF a ((bl s).drop i) : Nat) : Int), true) else ((0 : Int), false)) := by
  intro d
  induction d with
  | zero =>
    intro k i a hd hi hk ha
    obtain ⟨k, rfl⟩ : ∃ m, k = m + 1 := ⟨k - 1, by omega⟩
    simp only [spec_Number.l0]
    rw [if_neg (by omega), List.drop_of_length_le (by rw [bl_len]; omega)]
    show _ = some (if a ≤ top then _ else _)
    rw [if_pos ha]
    rfl
  | succ d ih =>
    intro k i a hd hi hk ha
    obtain ⟨k, rfl⟩ : ∃ m, k = m + 1 := ⟨k - 1, by omega⟩
    have hlt : i < s.size := by omega
    have hb := bt_bl s i hlt
    have hdg := List.all_eq_true.1 hall _ (List.getElem_mem (show i < (bl s).length by rw [bl_len]; exact hlt))
    rw [dig_iff] at hdg
    simp only [spec_Number.l0]
    rw [if_pos (by omega), if_pos (by omega), hb, drop_bl s i hlt]
    generalize (bl s)[i]'(by rw [bl_len]; exact hlt) = x at *
    have ev : valF a (x :: (bl s).drop (i + 1)) = valF (a * 10 + (x.toNat - 48)) ((bl s).drop (i + 1)) := rfl
    have hle := valF_le ((bl s).drop (i + 1)) (a * 10 + (x.toNat - 48))
    rw [ev]
    have em : ((x.toNat : Int) - 48) % 256 = ((x.toNat - 48 : Nat) : Int) := by omega
    rw [em]
    unfold top at *
    by_cases hgt : (a : Int) > (18446744073709551615 - ((x.toNat - 48 : Nat) : Int)) / 10
    · rw [if_pos hgt, if_neg (by omega)]
    · rw [if_neg hgt]
      have e0 : ∀ y : Int, IntKind.u64.wrap y = y % 18446744073709551616 := fun y => by simp [IntKind.wrap, IntKind.bits, IntKind.signed]
      have e1 : IntKind.u64.wrap (IntKind.u64.wrap ((a : Int) * 10) + ((x.toNat - 48 : Nat) : Int)) = ((a * 10 + (x.toNat - 48) : Nat) : Int) := by rw [e0, e0]; omega
      rw [e1, w64 (by omega) (by omega)]
      exact ih k (i + 1) (a * 10 + (x.toNat - 48)) (by omega) (by omega) (by omega) (by omega)

def numX (p : ByteArray) : Int × Bool := match num (bl p) with
  | some n => ((n : Int), true)
  | none => (0, false)

theorem number_f (s : ByteArray) (hs : s.size ≤ 2147483647) (k : Nat) (hk : s.size < k) : spec_Number.f k s = some (numX s) := by
  unfold spec_Number.f numX
  rw [digits_f s hs k hk, Option.bind_some, num_eq]
  by_cases h : (bl s).all isDig = true ∧ bl s ≠ []
  · have e : ((bl s).all isDig && !(bl s == [])) = true := by rw [h.1]; simpa using h.2
    rw [if_pos e]
    have := number_l0 s hs h.1 s.size k 0 0 (by omega) (by omega) hk (Nat.zero_le _)
    rw [List.drop_zero] at this
    rw [show spec_Number.l0 k s 0 0 = _ from this]
    by_cases ht : valF 0 (bl s) ≤ top
    · rw [if_pos ht, if_pos ⟨⟨h.2, h.1⟩, ht⟩]
    · rw [if_neg ht, if_neg (fun q => ht q.2)]
  · have e : ((bl s).all isDig && !(bl s == [])) = false := by
      rw [Bool.eq_false_iff]
      intro q
      rw [Bool.and_eq_true] at q
      exact h ⟨q.1, by simpa using q.2⟩
    rw [e, if_neg (by decide), if_neg (fun q => h ⟨q.1.2, q.1.1⟩)]

end Go.Proofs.YtnncjgoogjookaaDoor.KX
