/- The row and the tied card of FnSemverSetOriginal, out of its printed walk and its plain law. For every input that the statement lets in. -/
import Derived.Test.YtjgedenoaocfjaaGreatDoorZCardSemverSetOriginal8
import Derived.Test.YtjgedenoaocfjaaGreatDoorZCardSemverSetOriginal9
import Derived.Test.YtjgedenoaocfjaaGreatDoorZCardSemverSetOriginal13
import Derived.Test.YtjgedenoaocfjaaGreatDoorZCardSemverSetOriginal22
import Derived.Test.YtjgedenoaocfjaaGreatDoorZCardSemverSetOriginal23
namespace Go.Proofs.YtjgedenoaocfjaaGreatDoor.Bt
end Go.Proofs.YtjgedenoaocfjaaGreatDoor.Bt
namespace Go.Proofs.YtjgedenoaocfjaaGreatDoor.L
end Go.Proofs.YtjgedenoaocfjaaGreatDoor.L
namespace Go.Proofs.YtjgedenoaocfjaaGreatDoor.Num
end Go.Proofs.YtjgedenoaocfjaaGreatDoor.Num
namespace Go.Proofs.YtjgedenoaocfjaaGreatDoor.PX
end Go.Proofs.YtjgedenoaocfjaaGreatDoor.PX
namespace Go.Proofs.YtjgedenoaocfjaaGreatDoor.Parse
end Go.Proofs.YtjgedenoaocfjaaGreatDoor.Parse
namespace Go.Proofs.YtjgedenoaocfjaaGreatDoor.KX

open Go.RowKit Go.Proofs.YtjgedenoaocfjaaGreatDoor.L Go.Proofs.YtjgedenoaocfjaaGreatDoor.Bt Go.Proofs.YtjgedenoaocfjaaGreatDoor.PX Go.Proofs.YtjgedenoaocfjaaGreatDoor.Parse Go.Proofs.YtjgedenoaocfjaaGreatDoor.Num

open Go.Proofs.YtjgedenoaocfjaaGreatDoorW.PrintWords Go.Proofs.YtjgedenoaocfjaaGreatDoorW.PrintLast Go.Proofs.YtjgedenoaocfjaaGreatDoorW.PrintMore

theorem validMeta_l0 (l : List (List UInt8)) (B : Nat) (hB : B ≤ 2147483647) (hl : l.length ≤ 2147483648) (hp : ∀ p ∈ l, p.length ≤ B) : ∀ (d k i : Nat), l.length - i = d → i ≤ l.length → B + d < k →
    spec_ValidMeta.l0 k (l.map ofL) ((l.map ofL).length : Int) (i : Int) = some ((l.drop i).all metaP) := by
  intro d
  induction d with
  | zero =>
    intro k i hd hi hk
    obtain ⟨k, rfl⟩ : ∃ m, k = m + 1 := ⟨k - 1, by omega⟩
    simp only [spec_ValidMeta.l0, List.length_map]
    rw [if_neg (by omega), List.drop_of_length_le (by omega)]
    rfl
  | succ d ih =>
    intro k i hd hi hk
    obtain ⟨k, rfl⟩ : ∃ m, k = m + 1 := ⟨k - 1, by omega⟩
    have hlt : i < l.length := by omega
    have hq := hp _ (List.getElem_mem hlt)
    have ih2 := ih k (i + 1) (by omega) (by omega) (by omega)
    simp only [spec_ValidMeta.l0, List.length_map] at ih2 ⊢
    rw [if_pos (by omega), if_pos (by omega), if_pos (by omega), rd_map l i hlt, validIdent_f (ofL l[i]) (by rw [size_ofL]; omega) k (by rw [size_ofL]; omega), Option.bind_some, bl_ofL]
    rw [List.drop_eq_getElem_cons hlt, List.all_cons, w64 (by omega) (by omega), show ((i : Int) + 1) = ((i + 1 : Nat) : Int) by omega, ih2]
    cases metaP l[i] <;> simp

theorem validMeta_f (s : ByteArray) (hs : s.size ≤ 2147483647) (k : Nat) (hk : 2 * s.size + 2 < k) : spec_ValidMeta.f k s = some (metaOk (bl s)) := by
  have hlen := splitL_len 46 (bl s)
  rw [bl_len] at hlen
  unfold spec_ValidMeta.f
  rw [identifiers_f s (by omega) _ (by omega), Option.bind_some]
  have := validMeta_l0 (splitL 46 (bl s)) s.size (by omega) (by omega) (fun p hp => by have := parts_le 46 _ p hp; rw [bl_len] at this; exact this) (splitL 46 (bl s)).length k 0 (by omega) (by omega) (by omega)
  rw [List.drop_zero] at this
  exact this

/-- A text parted at its first byte c. -/
def cutL (c : UInt8) (l : List UInt8) : List UInt8 × List UInt8 × Bool := match fst c l with
  | none => (l, [], false)
  | some j => (l.take j, l.drop (j + 1), true)

theorem cutAt_l0 (s : ByteArray) (c : UInt8) (hs : s.size ≤ 2147483647) : ∀ (d k i : Nat), s.size - i = d → i ≤ s.size → d < k → (∀ x ∈ (bl s).take i, x ≠ c) →
    spec_cutAt.l0 k s (c.toNat : Int) (i : Int) = some (let r := cutL c (bl s); (ofL r.1, ofL r.2.1, r.2.2)) := by
  intro d
  induction d with
  | zero =>
    intro k i hd hi hk hn
    obtain ⟨k, rfl⟩ : ∃ m, k = m + 1 := ⟨k - 1, by omega⟩
    simp only [spec_cutAt.l0]
    rw [if_neg (by omega)]
    have hall : fst c (bl s) = none := by
      cases e : fst c (bl s) with
      | none => rfl
      | some j =>
        obtain ⟨h1, h2, h3⟩ := fst_some c _ _ e
        rw [List.take_of_length_le (by rw [bl_len]; omega)] at hn
        exact absurd rfl (hn c (by rw [h2]; simp))
    unfold cutL
    rw [hall]
    show _ = some (ofL (bl s), ofL [], false)
    rw [ofL_bl]
    rfl
  | succ d ih =>
    intro k i hd hi hk hn
    obtain ⟨k, rfl⟩ : ∃ m, k = m + 1 := ⟨k - 1, by omega⟩
    have hlt : i < s.size := by omega
    have hb := bt_bl s i hlt
    simp only [spec_cutAt.l0]
    rw [if_pos (by omega), if_pos (by omega), hb]
    by_cases e : (bl s)[i]'(by rw [bl_len]; exact hlt) = c
    · rw [if_pos (by rw [e]), if_pos (by omega), w64 (by omega) (by omega), if_pos (by omega), if_pos (by omega)]
      have hf : fst c (bl s) = some i := by
        cases e2 : fst c (bl s) with
        | none => exact absurd e (fst_none c _ e2 _ (List.getElem_mem _))
        | some j =>
          obtain ⟨h1, h2, h3⟩ := fst_some c _ _ e2
          rcases Nat.lt_trichotomy i j with h | h | h
          · have hm : (bl s)[i]'(by rw [bl_len]; exact hlt) ∈ (bl s).take j := by
              rw [List.mem_take_iff_getElem]
              exact ⟨i, by rw [bl_len] at *; omega, rfl⟩
            exact absurd e (h3 _ hm)
          · rw [h]
          · have hm : c ∈ (bl s).take i := by
              rw [List.mem_take_iff_getElem]
              refine ⟨j, by rw [bl_len] at *; omega, ?_⟩
              have h4 : (bl s)[j]? = some c := by
                rw [h2, List.getElem?_append_right (by rw [List.length_take]; omega), List.length_take, Nat.min_eq_left (by omega), Nat.sub_self]; rfl
              rw [List.getElem?_eq_getElem h1] at h4
              exact Option.some.inj h4
            exact absurd rfl (hn c hm)
      unfold cutL
      rw [hf]
      dsimp only
      rw [Int.toNat_natCast, extract_head, show ((i : Int) + 1).toNat = i + 1 by omega, extract_end]
    · rw [if_neg (fun h => e (UInt8.toNat_inj.1 (by omega))), w64 (by omega) (by omega)]
      refine ih k (i + 1) (by omega) (by omega) (by omega) fun x hx => ?_
      rw [List.take_succ_eq_append_getElem (by rw [bl_len]; exact hlt)] at hx
      rcases List.mem_append.1 hx with h | h
      · exact hn x h
      · simp at h; rw [h]; exact e

theorem cutAt_f (s : ByteArray) (c : UInt8) (hs : s.size ≤ 2147483647) (k : Nat) (hk : s.size < k) : spec_cutAt.f k s (c.toNat : Int) = some (let r := cutL c (bl s); (ofL r.1, ofL r.2.1, r.2.2)) :=
  cutAt_l0 s c hs s.size k 0 (by omega) (by omega) hk (fun x hx => by simp at hx)

theorem cutL_len (c : UInt8) (l : List UInt8) : (cutL c l).1.length ≤ l.length ∧ (cutL c l).2.1.length ≤ l.length := by
  unfold cutL
  cases fst c l with
  | none => exact ⟨Nat.le_refl _, Nat.zero_le _⟩
  | some j => exact ⟨by rw [List.length_take]; omega, by rw [List.length_drop]; omega⟩

/-- The ends of a version's text: what is ahead of them, the prerelease, the metadata, whether they are good. -/
def tailsL (l : List UInt8) : List UInt8 × List UInt8 × List UInt8 × Bool :=
  let x := cutL 43 l; let y := cutL 45 x.1
  (y.1, y.2.1, x.2.1, (!x.2.2 || metaOk x.2.1) && (!y.2.2 || preOk y.2.1))

theorem tails_f (s : ByteArray) (hs : s.size ≤ 1073741823) (k : Nat) (hk : 2 * s.size + 2 < k) : spec_tails.f k s = some (let r := tailsL (bl s); (ofL r.1, ofL r.2.1, ofL r.2.2.1, r.2.2.2)) := by
  have h1 := cutL_len 43 (bl s)
  have h2 := cutL_len 45 (cutL 43 (bl s)).1
  rw [bl_len] at h1
  unfold spec_tails.f
  have e1 : spec_cutAt.f k s 43 = _ := cutAt_f s 43 (by omega) k (by omega)
  rw [e1, Option.bind_some]
  dsimp only
  have e2 : spec_cutAt.f k (ofL (cutL 43 (bl s)).1) 45 = _ := cutAt_f (ofL (cutL 43 (bl s)).1) 45 (by rw [size_ofL]; omega) k (by rw [size_ofL]; omega)
  rw [e2, Option.bind_some, bl_ofL]
  dsimp only
  rw [validMeta_f (ofL (cutL 43 (bl s)).2.1) (by rw [size_ofL]; omega) k (by rw [size_ofL]; omega), bl_ofL]
  rw [validPre_f (ofL (cutL 45 (cutL 43 (bl s)).1).2.1) (by rw [size_ofL]; omega) k (by rw [size_ofL]; omega), bl_ofL]
  simp only [Option.bind_some]
  unfold tailsL
  dsimp only
  cases (cutL 43 (bl s)).2.2 <;> cases (cutL 45 (cutL 43 (bl s)).1).2.2 <;> cases metaOk (cutL 43 (bl s)).2.1 <;> simp

theorem number_l0 (s : ByteArray) (hs : s.size ≤ 2147483647) (hall : (bl s).all isDig = true) : ∀ (d k i a : Nat), s.size - i = d → i ≤ s.size → d < k → a ≤ top →
    spec_Number.l0 k s (a : Int) (i : Int) = some (if valF a ((bl s).drop i) ≤ top then (((valF a ((bl s).drop i) : Nat) : Int), true) else ((0 : Int), false)) := by
  intro d
  induction d with
  | zero =>
    intro k i a hd hi hk ha
    obtain ⟨k, rfl⟩ : ∃ m, k = m + 1 := ⟨k - 1, by omega⟩
    simp only [spec_Number.l0]
    rw [if_neg (by omega), List.drop_of_length_le (by rw [bl_len]; omega)]
    show _ = some (if a ≤ top then _ else _)
    rw [if_pos ha]
    rfl
  | succ d ih =>
    intro k i a hd hi hk ha
    obtain ⟨k, rfl⟩ : ∃ m, k = m + 1 := ⟨k - 1, by omega⟩
    have hlt : i < s.size := by omega
    have hb := bt_bl s i hlt
    have hdg := List.all_eq_true.1 hall _ (List.getElem_mem (show i < (bl s).length by rw [bl_len]; exact hlt))
    rw [dig_iff] at hdg
    simp only [spec_Number.l0]
    rw [if_pos (by omega), if_pos (by omega), hb, drop_bl s i hlt]
    generalize (bl s)[i]'(by rw [bl_len]; exact hlt) = x at *
    have ev : valF a (x :: (bl s).drop (i + 1)) = valF (a * 10 + (x.toNat - 48)) ((bl s).drop (i + 1)) := rfl
    have hle := valF_le ((bl s).drop (i + 1)) (a * 10 + (x.toNat - 48))
    rw [ev]
    have em : ((x.toNat : Int) - 48) % 256 = ((x.toNat - 48 : Nat) : Int) := by omega
    rw [em]
    unfold top at *
    by_cases hgt : (a : Int) > (18446744073709551615 - ((x.toNat - 48 : Nat) : Int)) / 10
    · rw [if_pos hgt, if_neg (by omega)]
    · rw [if_neg hgt]
      have e0 : ∀ y : Int, IntKind.u64.wrap y = y % 18446744073709551616 := fun y => by simp [IntKind.wrap, IntKind.bits, IntKind.signed]
      have e1 : IntKind.u64.wrap (IntKind.u64.wrap ((a : Int) * 10) + ((x.toNat - 48 : Nat) : Int)) = ((a * 10 + (x.toNat - 48) : Nat) : Int) := by rw [e0, e0]; omega
      rw [e1, w64 (by omega) (by omega)]
      exact ih k (i + 1) (a * 10 + (x.toNat - 48)) (by omega) (by omega) (by omega) (by omega)

def numX (p : ByteArray) : Int × Bool := match num (bl p) with
  | some n => ((n : Int), true)
  | none => (0, false)

theorem number_f (s : ByteArray) (hs : s.size ≤ 2147483647) (k : Nat) (hk : s.size < k) : spec_Number.f k s = some (numX s) := by
  unfold spec_Number.f numX
  rw [digits_f s hs k hk, Option.bind_some, num_eq]
  by_cases h : (bl s).all isDig = true ∧ bl s ≠ []
  · have e : ((bl s).all isDig && !(bl s == [])) = true := by rw [h.1]; simpa using h.2
    rw [if_pos e]
    have := number_l0 s hs h.1 s.size k 0 0 (by omega) (by omega) hk (Nat.zero_le _)
    rw [List.drop_zero] at this
    rw [show spec_Number.l0 k s 0 0 = _ from this]
    by_cases ht : valF 0 (bl s) ≤ top
    · rw [if_pos ht, if_pos ⟨⟨h.2, h.1⟩, ht⟩]
    · rw [if_neg ht, if_neg (fun q => ht q.2)]
  · have e : ((bl s).all isDig && !(bl s == [])) = false := by
      rw [Bool.eq_false_iff]
      intro q
      rw [Bool.and_eq_true] at q
      exact h ⟨q.1, by simpa using q.2⟩
    rw [e, if_neg (by decide), if_neg (fun q => h ⟨q.1.2, q.1.1⟩)]

end Go.Proofs.YtjgedenoaocfjaaGreatDoor.KX
namespace Go.Proofs.YtjgedenoaocfjaaGreatDoor.KX

open Go.RowKit Go.Proofs.YtjgedenoaocfjaaGreatDoor.L Go.Proofs.YtjgedenoaocfjaaGreatDoor.Bt Go.Proofs.YtjgedenoaocfjaaGreatDoor.Num Go.Proofs.YtjgedenoaocfjaaGreatDoor.PX

open Go.Proofs.YtjgedenoaocfjaaGreatDoorW.PrintWords Go.Proofs.YtjgedenoaocfjaaGreatDoorW.PrintLast Go.Proofs.YtjgedenoaocfjaaGreatDoorW.PrintMore

theorem one_num (n : Nat) (h : n < 10) : strOfNums [(48 + ((n : Int) % 256)) % 256] = ofL [UInt8.ofNat (48 + n)] := by
  have : (48 + ((n : Int) % 256)) % 256 = ((48 + n : Nat) : Int) := by omega
  rw [this]
  rfl

theorem decimal_f : ∀ (k n : Nat), n < 18446744073709551616 → n < 10 ^ (k + 1) → k < 30 → spec_Decimal.f (k + 1) (n : Int) = some (ofL (decL n)) := by
  intro k
  induction k with
  | zero =>
    intro n hn h _
    unfold spec_Decimal.f decL
    rw [if_pos (by omega), if_pos (by omega), one_num n (by omega)]
  | succ k ih =>
    intro n hn h hk
    unfold spec_Decimal.f
    by_cases h10 : n < 10
    · unfold decL
      rw [if_pos (by omega), if_pos h10, one_num n h10]
    · have e1 : IntKind.u64.wrap (Int.tdiv (n : Int) 10) = ((n / 10 : Nat) : Int) := by
        rw [show Int.tdiv (n : Int) 10 = ((n / 10 : Nat) : Int) from rfl]
        have e0 : ∀ x : Int, IntKind.u64.wrap x = x % 18446744073709551616 := fun x => by simp [IntKind.wrap, IntKind.bits, IntKind.signed]
        rw [e0]; omega
      have e2 : Int.tmod (n : Int) 10 = ((n % 10 : Nat) : Int) := rfl
      have hl := decL_len k (n / 10) (by rw [Nat.pow_succ] at h; omega)
      rw [if_neg (by omega), e1, e2, ih (n / 10) (by omega) (by rw [Nat.pow_succ] at h; omega) (by omega), Option.bind_some, Option.bind_some, one_num (n % 10) (by omega)]
      rw [if_pos (by rw [size_ofL, size_ofL]; simp; omega)]
      conv => rhs; unfold decL
      rw [if_neg h10]
      rfl

end Go.Proofs.YtjgedenoaocfjaaGreatDoor.KX
