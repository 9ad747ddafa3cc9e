/- The row and the tied card of FnSemverSetOriginal, out of its printed walk and its plain law. For every input that the statement lets in. -/
import Derived.Test.YtjgedenoaocfjaaGreatDoorZCardSemverSetOriginal4
import Derived.Test.YtjgedenoaocfjaaGreatDoorZCardSemverSetOriginal8
import Derived.Test.YtjgedenoaocfjaaGreatDoorZCardSemverSetOriginal9
import Derived.Test.YtjgedenoaocfjaaGreatDoorZCardSemverSetOriginal22
namespace Go.Proofs.YtjgedenoaocfjaaGreatDoor.Bt
end Go.Proofs.YtjgedenoaocfjaaGreatDoor.Bt
namespace Go.Proofs.YtjgedenoaocfjaaGreatDoor.L
end Go.Proofs.YtjgedenoaocfjaaGreatDoor.L
namespace Go.Proofs.YtjgedenoaocfjaaGreatDoor.PX
end Go.Proofs.YtjgedenoaocfjaaGreatDoor.PX
namespace Go.Proofs.YtjgedenoaocfjaaGreatDoor.SplitX

open Go.RowKit Go.Proofs.YtjgedenoaocfjaaGreatDoor.L Go.Proofs.YtjgedenoaocfjaaGreatDoor.PX

open Go.Proofs.YtjgedenoaocfjaaGreatDoorW.PrintWords Go.Proofs.YtjgedenoaocfjaaGreatDoorW.PrintLast Go.Proofs.YtjgedenoaocfjaaGreatDoorW.PrintMore

theorem w64 {a : Int} (h0 : 0 ≤ a) (h1 : a ≤ 9223372036854775807) : wrap64 a = a := by unfold wrap64; omega

theorem get_bl (s : ByteArray) (i : Nat) (h : i < s.size) : (bl s)[i]'(by rw [bl_len]; exact h) = s[i] := rfl

theorem bt_bl (s : ByteArray) (i : Nat) (h : i < s.size) : bt s (i : Int) = ((bl s)[i]'(by rw [bl_len]; exact h)).toNat := by
  rw [← bt_at s (i : Int) (by simpa using h)]
  simp only [Int.toNat_natCast]
  rfl

theorem drop_bl (s : ByteArray) (i : Nat) (h : i < s.size) : (bl s).drop i = (bl s)[i]'(by rw [bl_len]; exact h) :: (bl s).drop (i + 1) := List.drop_eq_getElem_cons (by rw [bl_len]; exact h)

theorem one_bl (s : ByteArray) (c : UInt8) (i : Nat) (h : i < s.size) : ((s.extract i (i + 1)).toList = (ofL [c]).toList) ↔ (bl s)[i]'(by rw [bl_len]; exact h) = c := by
  rw [ByteArray.toList_eq, ByteArray.toList_eq]
  show bl _ = bl _ ↔ _
  rw [bl_extract, bl_ofL, drop_bl s i h, show i + 1 - i = 1 by omega, List.take_succ_cons, List.take_zero]
  simp

def idxR (c : UInt8) (l : List UInt8) (i : Nat) : Int := match fst c l with | none => -1 | some j => ((i + j : Nat) : Int)

theorem zzIndex_l0 (s : ByteArray) (c : UInt8) (hs : s.size ≤ 1000000000000) : ∀ (d k i : Nat), s.size - i = d → i ≤ s.size → d < k →
    semver_zzIndex.l0 k s (ofL [c]) (i : Int) = some (idxR c ((bl s).drop i) i) := by
  intro d
  induction d with
  | zero =>
    intro k i hd hi hk
    obtain ⟨k, rfl⟩ : ∃ m, k = m + 1 := ⟨k - 1, by omega⟩
    have e1 : ((ofL [c]).size : Int) = 1 := rfl
    simp only [semver_zzIndex.l0, e1]
    rw [w64 (by omega) (by omega), if_neg (by omega), List.drop_of_length_le (by rw [bl_len]; omega)]
    rfl
  | succ d ih =>
    intro k i hd hi hk
    obtain ⟨k, rfl⟩ : ∃ m, k = m + 1 := ⟨k - 1, by omega⟩
    have hlt : i < s.size := by omega
    have e1 : ((ofL [c]).size : Int) = 1 := rfl
    have e2 : ((i : Int) + 1).toNat = i + 1 := by omega
    simp only [semver_zzIndex.l0, e1]
    rw [w64 (by omega) (by omega), if_pos (by omega), if_pos (by omega), if_pos (by omega), e2, Int.toNat_natCast]
    by_cases h : (bl s)[i]'(by rw [bl_len]; exact hlt) = c
    · rw [if_pos ((one_bl s c i hlt).2 h), drop_bl s i hlt]
      simp [idxR, fst, h]
    · rw [if_neg (fun e => h ((one_bl s c i hlt).1 e))]
      have := ih k (i + 1) (by omega) (by omega) (by omega)
      rw [show ((i : Int) + 1) = ((i + 1 : Nat) : Int) by omega, this, drop_bl s i hlt]
      congr 1
      unfold idxR
      rw [fst, if_neg h]
      cases fst c ((bl s).drop (i + 1)) <;> simp
      omega

theorem zzIndex_f (s : ByteArray) (c : UInt8) (hs : s.size ≤ 1000000000000) (k : Nat) (hk : s.size < k) : semver_zzIndex.f k s (ofL [c]) = some (idxR c (bl s) 0) := by
  have := zzIndex_l0 s c hs s.size k 0 (by omega) (by omega) hk
  rw [List.drop_zero] at this
  exact this

theorem zzSplit_l0 (c : UInt8) : ∀ (n k : Nat) (s : ByteArray) (acc : List ByteArray), s.size = n → s.size + acc.length ≤ 1000000000000 → s.size + 2 ≤ k →
    semver_zzSplit.l0 k s (ofL [c]) acc = some (acc ++ (splitL c (bl s)).map ofL) := by
  intro n
  induction n using Nat.strongRecOn with
  | ind n ih =>
    intro k s acc hn ha hk
    obtain ⟨k, rfl⟩ : ∃ m, k = m + 1 := ⟨k - 1, by omega⟩
    have e1 : ((ofL [c]).size : Int) = 1 := rfl
    simp only [semver_zzSplit.l0, e1]
    rw [zzIndex_f s c (by omega) k (by omega), Option.bind_some]
    unfold idxR
    cases e : fst c (bl s) with
    | none =>
      simp only
      rw [if_pos (by omega), if_pos (by omega), splitL_fst_none c _ e]
      simp
    | some j =>
      obtain ⟨h1, h2, h3⟩ := fst_some c _ _ e
      rw [bl_len] at h1
      simp only [Nat.zero_add]
      rw [if_neg (by omega), if_pos (by omega), if_pos (by omega), if_pos (by omega), w64 (by omega) (by omega), if_pos (by omega), if_pos (by omega)]
      rw [show ((j : Int) + 1).toNat = j + 1 by omega, Int.toNat_natCast, extract_end, extract_head]
      have hsz : (ofL ((bl s).drop (j + 1))).size = s.size - (j + 1) := by rw [size_ofL, List.length_drop, bl_len]
      rw [ih (s.size - (j + 1)) (by omega) k _ _ hsz (by rw [hsz, List.length_append]; simp; omega) (by rw [hsz]; omega), bl_ofL, splitL_fst_some c _ j e]
      simp

theorem zzSplit_f (s : ByteArray) (c : UInt8) (hs : s.size ≤ 2147483647) (k : Nat) (hk : s.size + 2 ≤ k) : semver_zzSplit.f k s (ofL [c]) = some ((splitL c (bl s)).map ofL) := by
  have := zzSplit_l0 c s.size k s [] rfl (by simp; omega) hk
  rw [List.nil_append] at this
  exact this

end Go.Proofs.YtjgedenoaocfjaaGreatDoor.SplitX
namespace Go.Proofs.YtjgedenoaocfjaaGreatDoor.KX

open Go.RowKit Go.Proofs.YtjgedenoaocfjaaGreatDoor.L Go.Proofs.YtjgedenoaocfjaaGreatDoor.Bt Go.Proofs.YtjgedenoaocfjaaGreatDoor.PX

open Go.Proofs.YtjgedenoaocfjaaGreatDoorW.PrintWords Go.Proofs.YtjgedenoaocfjaaGreatDoorW.PrintLast Go.Proofs.YtjgedenoaocfjaaGreatDoorW.PrintMore

theorem isDigit_f (b : UInt8) : spec_isDigit.f (b.toNat : Int) = some (isDig b) := by
  unfold spec_isDigit.f isDig
  have e2 : ((b.toNat : Int) ≤ 57) ↔ b.toNat ≤ 57 := by omega
  by_cases h1 : 48 ≤ b.toNat
  · rw [if_pos (by omega)]; simp [h1, e2]
  · rw [if_neg (by omega)]; simp [h1]

theorem digits_l0 (s : ByteArray) (hs : s.size ≤ 2147483647) : ∀ (d k i : Nat), s.size - i = d → i ≤ s.size → d < k →
    spec_Digits.l0 k s (i : Int) = some (((bl s).drop i).all isDig && !(bl s == [])) := by
  intro d
  induction d with
  | zero =>
    intro k i hd hi hk
    obtain ⟨k, rfl⟩ : ∃ m, k = m + 1 := ⟨k - 1, by omega⟩
    simp only [spec_Digits.l0]
    rw [if_neg (by omega), List.drop_of_length_le (by rw [bl_len]; omega), neNil_bl]
    simp
  | succ d ih =>
    intro k i hd hi hk
    obtain ⟨k, rfl⟩ : ∃ m, k = m + 1 := ⟨k - 1, by omega⟩
    have hlt : i < s.size := by omega
    simp only [spec_Digits.l0]
    rw [if_pos (by omega), if_pos (by omega), bt_bl s i hlt, isDigit_f, Option.bind_some, drop_bl s i hlt, List.all_cons]
    cases isDig _
    · simp
    · rw [w64 (by omega) (by omega), show ((i : Int) + 1) = ((i + 1 : Nat) : Int) by omega, ih k (i + 1) (by omega) (by omega) (by omega)]
      simp

theorem digits_f (s : ByteArray) (hs : s.size ≤ 2147483647) (k : Nat) (hk : s.size < k) : spec_Digits.f k s = some ((bl s).all isDig && !(bl s == [])) := by
  have := digits_l0 s hs s.size k 0 (by omega) (by omega) hk
  rw [List.drop_zero] at this
  exact this

end Go.Proofs.YtjgedenoaocfjaaGreatDoor.KX
namespace Go.Proofs.YtjgedenoaocfjaaGreatDoor.KX

open Go.RowKit Go.Proofs.YtjgedenoaocfjaaGreatDoor.L Go.Proofs.YtjgedenoaocfjaaGreatDoor.Bt Go.Proofs.YtjgedenoaocfjaaGreatDoor.PX

open Go.Proofs.YtjgedenoaocfjaaGreatDoorW.PrintWords Go.Proofs.YtjgedenoaocfjaaGreatDoorW.PrintLast Go.Proofs.YtjgedenoaocfjaaGreatDoorW.PrintMore

theorem isIdent_f (b : UInt8) : spec_isIdent.f (b.toNat : Int) = some (isId b) := by
  unfold spec_isIdent.f isId
  rw [isDigit_f, Option.bind_some]
  cases isDig b
  · simp only [Bool.false_eq_true, if_false, Bool.false_or]
    have e : ((b.toNat : Int) == 45) = (b == 45) := by
      rw [Bool.eq_iff_iff, beq_iff_eq, beq_iff_eq]
      constructor
      · intro h; apply UInt8.toNat_inj.1; show _ = 45; omega
      · intro h; rw [h]; rfl
    rw [e]
    have a1 : ((65 : Int) ≤ (b.toNat : Int)) ↔ 65 ≤ b.toNat := by omega
    have a2 : ((b.toNat : Int) ≤ 90) ↔ b.toNat ≤ 90 := by omega
    have a3 : ((97 : Int) ≤ (b.toNat : Int)) ↔ 97 ≤ b.toNat := by omega
    have a4 : ((b.toNat : Int) ≤ 122) ↔ b.toNat ≤ 122 := by omega
    simp only [a1, a2, a3, a4]
    by_cases h1 : 65 ≤ b.toNat <;> by_cases h2 : b.toNat ≤ 90 <;> by_cases h3 : 97 ≤ b.toNat <;> by_cases h4 : b.toNat ≤ 122 <;> simp [h1, h2, h3, h4]
  · simp

theorem validIdent_l0 (s : ByteArray) (hs : s.size ≤ 2147483647) : ∀ (d k i : Nat), s.size - i = d → i ≤ s.size → d < k →
    spec_ValidIdent.l0 k s (i : Int) = some (((bl s).drop i).all isId && !(bl s == [])) := by
  intro d
  induction d with
  | zero =>
    intro k i hd hi hk
    obtain ⟨k, rfl⟩ : ∃ m, k = m + 1 := ⟨k - 1, by omega⟩
    simp only [spec_ValidIdent.l0]
    rw [if_neg (by omega), List.drop_of_length_le (by rw [bl_len]; omega), neNil_bl]
    simp
  | succ d ih =>
    intro k i hd hi hk
    obtain ⟨k, rfl⟩ : ∃ m, k = m + 1 := ⟨k - 1, by omega⟩
    have hlt : i < s.size := by omega
    simp only [spec_ValidIdent.l0]
    rw [if_pos (by omega), if_pos (by omega), bt_bl s i hlt, isIdent_f, Option.bind_some, drop_bl s i hlt, List.all_cons]
    cases isId _
    · simp
    · rw [w64 (by omega) (by omega), show ((i : Int) + 1) = ((i + 1 : Nat) : Int) by omega, ih k (i + 1) (by omega) (by omega) (by omega)]
      simp

theorem validIdent_f (s : ByteArray) (hs : s.size ≤ 2147483647) (k : Nat) (hk : s.size < k) : spec_ValidIdent.f k s = some (metaP (bl s)) := by
  have := validIdent_l0 s hs s.size k 0 (by omega) (by omega) hk
  rw [List.drop_zero] at this
  unfold metaP
  rw [Bool.and_comm]
  exact this

end Go.Proofs.YtjgedenoaocfjaaGreatDoor.KX
namespace Go.Proofs.YtjgedenoaocfjaaGreatDoor.KX

open Go.RowKit Go.Proofs.YtjgedenoaocfjaaGreatDoor.L Go.Proofs.YtjgedenoaocfjaaGreatDoor.Bt Go.Proofs.YtjgedenoaocfjaaGreatDoor.PX

open Go.Proofs.YtjgedenoaocfjaaGreatDoorW.PrintWords Go.Proofs.YtjgedenoaocfjaaGreatDoorW.PrintLast Go.Proofs.YtjgedenoaocfjaaGreatDoorW.PrintMore

theorem identifiers_l0 (s : ByteArray) (hs : s.size ≤ 2147483647) : ∀ (d k i a : Nat) (acc : List ByteArray), s.size - i = d → i ≤ s.size → a ≤ i → d < k → acc.length ≤ i →
    ∀ h t, splitL 46 ((bl s).drop i) = h :: t →
    spec_Identifiers.l0 k s acc (a : Int) (i : Int) = some (acc ++ ofL ((((bl s).drop a).take (i - a)) ++ h) :: t.map ofL) := by
  intro d
  induction d with
  | zero =>
    intro k i a acc hd hi ha hk hac h t e
    obtain ⟨k, rfl⟩ : ∃ m, k = m + 1 := ⟨k - 1, by omega⟩
    simp only [spec_Identifiers.l0]
    rw [if_neg (by omega), if_pos (by omega), if_pos (by omega), if_pos (by omega), Int.toNat_natCast, extract_end]
    rw [List.drop_of_length_le (by rw [bl_len]; omega)] at e
    simp only [splitL, List.cons.injEq] at e
    obtain ⟨rfl, rfl⟩ := e
    rw [List.take_of_length_le (by rw [List.length_drop, bl_len]; omega)]
    simp
  | succ d ih =>
    intro k i a acc hd hi ha hk hac h t e
    obtain ⟨k, rfl⟩ : ∃ m, k = m + 1 := ⟨k - 1, by omega⟩
    have hlt : i < s.size := by omega
    simp only [spec_Identifiers.l0]
    rw [if_pos (by omega), if_pos (by omega), bt_bl s i hlt]
    rw [drop_bl s i hlt, splitL] at e
    by_cases hc : (bl s)[i]'(by rw [bl_len]; exact hlt) = 46
    · rw [if_pos hc] at e
      simp only [List.cons.injEq] at e
      obtain ⟨rfl, rfl⟩ := e
      rw [if_pos (by rw [hc]; rfl), if_pos (by omega), if_pos (by omega), if_pos (by omega), if_pos (by omega), w64 (by omega) (by omega)]
      rw [show ((i : Int) + 1) = ((i + 1 : Nat) : Int) by omega, Int.toNat_natCast, Int.toNat_natCast, extract_ofL]
      obtain ⟨h', t', e'⟩ : ∃ h' t', splitL 46 ((bl s).drop (i + 1)) = h' :: t' := by
        cases q : splitL 46 ((bl s).drop (i + 1)) with
        | nil => exact absurd q (splitL_ne _ _)
        | cons h' t' => exact ⟨h', t', rfl⟩
      rw [ih k (i + 1) (i + 1) _ (by omega) (by omega) (by omega) (by omega) (by rw [List.length_append]; simp; omega) h' t' e', e']
      simp
    · rw [if_neg hc] at e
      obtain ⟨h', t', e'⟩ : ∃ h' t', splitL 46 ((bl s).drop (i + 1)) = h' :: t' := by
        cases q : splitL 46 ((bl s).drop (i + 1)) with
        | nil => exact absurd q (splitL_ne _ _)
        | cons h' t' => exact ⟨h', t', rfl⟩
      rw [e'] at e
      simp only [List.cons.injEq] at e
      obtain ⟨rfl, rfl⟩ := e
      rw [if_neg (by intro q; apply hc; apply UInt8.toNat_inj.1; show _ = 46; omega), w64 (by omega) (by omega), show ((i : Int) + 1) = ((i + 1 : Nat) : Int) by omega]
      rw [ih k (i + 1) a _ (by omega) (by omega) (by omega) (by omega) (by omega) h' t' e', take_snoc (bl s) a i (by rw [bl_len]; exact hlt) ha]
      simp

theorem identifiers_f (s : ByteArray) (hs : s.size ≤ 2147483647) (k : Nat) (hk : s.size < k) : spec_Identifiers.f k s = some ((splitL 46 (bl s)).map ofL) := by
  cases q : splitL 46 (bl s) with
  | nil => exact absurd q (splitL_ne _ _)
  | cons h t =>
    have := identifiers_l0 s hs s.size k 0 0 [] (by omega) (by omega) (by omega) hk (by simp) h t (by simpa using q)
    rw [List.nil_append, List.drop_zero, Nat.sub_zero, List.take_zero, List.nil_append] at this
    exact this

end Go.Proofs.YtjgedenoaocfjaaGreatDoor.KX
namespace Go.Proofs.YtjgedenoaocfjaaGreatDoor.KX

open Go.RowKit Go.Proofs.YtjgedenoaocfjaaGreatDoor.L Go.Proofs.YtjgedenoaocfjaaGreatDoor.Bt Go.Proofs.YtjgedenoaocfjaaGreatDoor.PX

open Go.Proofs.YtjgedenoaocfjaaGreatDoorW.PrintWords Go.Proofs.YtjgedenoaocfjaaGreatDoorW.PrintLast Go.Proofs.YtjgedenoaocfjaaGreatDoorW.PrintMore

/-- A part of digits alone with 20 of them or more. -/
def longP (p : List UInt8) : Bool := p.all isDig && !(p == []) && decide (19 < p.length)

def smallOk (l : List UInt8) : Bool := (splitL 46 l).all (fun p => !longP p)

theorem validPre_l0 (l : List (List UInt8)) (B : Nat) (hB : B ≤ 2147483647) (hl : l.length ≤ 2147483648) (hp : ∀ p ∈ l, p.length ≤ B) : ∀ (d k i : Nat), l.length - i = d → i ≤ l.length → B + d < k →
    spec_ValidPre.l0 k (l.map ofL) ((l.map ofL).length : Int) (i : Int) = some ((l.drop i).all (fun p => metaP p && !zeroP p)) := by
  intro d
  induction d with
  | zero =>
    intro k i hd hi hk
    obtain ⟨k, rfl⟩ : ∃ m, k = m + 1 := ⟨k - 1, by omega⟩
    simp only [spec_ValidPre.l0, List.length_map]
    rw [if_neg (by omega), List.drop_of_length_le (by omega)]
    rfl
  | succ d ih =>
    intro k i hd hi hk
    obtain ⟨k, rfl⟩ : ∃ m, k = m + 1 := ⟨k - 1, by omega⟩
    have hlt : i < l.length := by omega
    have hq := hp _ (List.getElem_mem hlt)
    have ih2 := ih k (i + 1) (by omega) (by omega) (by omega)
    simp only [spec_ValidPre.l0, List.length_map] at ih2 ⊢
    rw [if_pos (by omega), if_pos (by omega), if_pos (by omega), rd_map l i hlt, validIdent_f (ofL l[i]) (by rw [size_ofL]; omega) k (by rw [size_ofL]; omega), Option.bind_some, bl_ofL]
    rw [digits_f (ofL l[i]) (by rw [size_ofL]; omega) k (by rw [size_ofL]; omega), Option.bind_some, bl_ofL]
    rw [List.drop_eq_getElem_cons hlt, List.all_cons, w64 (by omega) (by omega), show ((i : Int) + 1) = ((i + 1 : Nat) : Int) by omega, ih2]
    rw [size_ofL]
    generalize hpp : l[i] = p at *
    unfold zeroP
    cases hm : metaP p
    · simp
    · rw [if_pos rfl, Bool.true_and]
      cases hd : (p.all isDig && !(p == []))
      · simp
      · rw [if_pos rfl, Bool.true_and]
        by_cases h1 : 1 < p.length
        · have e : bt (ofL p) 0 = (((p.headD 0).toNat : Nat) : Int) := by
            have h0 : 0 < (ofL p).size := by rw [size_ofL]; omega
            have h2 := head_bl (ofL p) h0
            have h3 : bt (ofL p) ((0 : Nat) : Int) = _ := bt_bl (ofL p) 0 h0
            rw [get_bl (ofL p) 0 h0, ← h2] at h3
            exact h3
          rw [if_pos (by omega), if_pos (by omega), e, decide_eq_true h1, Bool.true_and]
          cases h48 : (p.headD 0 == 48)
          · have : ¬ (((p.headD 0).toNat : Int) = 48) := by
              rw [beq_eq_false_iff_ne] at h48
              intro q; apply h48; apply UInt8.toNat_inj.1; show _ = 48; omega
            rw [if_neg this]; simp
          · have : (((p.headD 0).toNat : Int) = 48) := by
              rw [beq_iff_eq] at h48; rw [h48]; rfl
            rw [if_pos this]; simp
        · rw [if_neg (by omega), decide_eq_false h1]; simp

theorem validPre_f (s : ByteArray) (hs : s.size ≤ 2147483647) (k : Nat) (hk : 2 * s.size + 2 < k) : spec_ValidPre.f k s = some (preOk (bl s)) := by
  have hlen := splitL_len 46 (bl s)
  rw [bl_len] at hlen
  unfold spec_ValidPre.f
  rw [identifiers_f s (by omega) _ (by omega), Option.bind_some]
  have := validPre_l0 (splitL 46 (bl s)) s.size (by omega) (by omega) (fun p hp => by have := parts_le 46 _ p hp; rw [bl_len] at this; exact this) (splitL 46 (bl s)).length k 0 (by omega) (by omega) (by omega)
  rw [List.drop_zero] at this
  exact this

theorem smallPre_l0 (l : List (List UInt8)) (B : Nat) (hB : B ≤ 2147483647) (hl : l.length ≤ 2147483648) (hp : ∀ p ∈ l, p.length ≤ B) : ∀ (d k i : Nat), l.length - i = d → i ≤ l.length → B + d < k →
    spec_SmallPre.l0 k (l.map ofL) ((l.map ofL).length : Int) (i : Int) = some ((l.drop i).all (fun p => !longP p)) := by
  intro d
  induction d with
  | zero =>
    intro k i hd hi hk
    obtain ⟨k, rfl⟩ : ∃ m, k = m + 1 := ⟨k - 1, by omega⟩
    simp only [spec_SmallPre.l0, List.length_map]
    rw [if_neg (by omega), List.drop_of_length_le (by omega)]
    rfl
  | succ d ih =>
    intro k i hd hi hk
    obtain ⟨k, rfl⟩ : ∃ m, k = m + 1 := ⟨k - 1, by omega⟩
    have hlt : i < l.length := by omega
    have hq := hp _ (List.getElem_mem hlt)
    have ih2 := ih k (i + 1) (by omega) (by omega) (by omega)
    simp only [spec_SmallPre.l0, List.length_map] at ih2 ⊢
    rw [if_pos (by omega), if_pos (by omega), if_pos (by omega), rd_map l i hlt, digits_f (ofL l[i]) (by rw [size_ofL]; omega) k (by rw [size_ofL]; omega), Option.bind_some, bl_ofL]
    rw [List.drop_eq_getElem_cons hlt, List.all_cons, w64 (by omega) (by omega), show ((i : Int) + 1) = ((i + 1 : Nat) : Int) by omega, ih2, size_ofL]
    unfold longP
    cases hd : (l[i].all isDig && !(l[i] == []))
    · simp
    · rw [if_pos rfl]
      by_cases h1 : 19 < l[i].length
      · rw [if_pos (by omega), decide_eq_true h1]; simp
      · rw [if_neg (by omega), decide_eq_false h1]; simp

theorem smallPre_f (s : ByteArray) (hs : s.size ≤ 2147483647) (k : Nat) (hk : 2 * s.size + 2 < k) : spec_SmallPre.f k s = some (smallOk (bl s)) := by
  have hlen := splitL_len 46 (bl s)
  rw [bl_len] at hlen
  unfold spec_SmallPre.f
  rw [identifiers_f s (by omega) _ (by omega), Option.bind_some]
  have := smallPre_l0 (splitL 46 (bl s)) s.size (by omega) (by omega) (fun p hp => by have := parts_le 46 _ p hp; rw [bl_len] at this; exact this) (splitL 46 (bl s)).length k 0 (by omega) (by omega) (by omega)
  rw [List.drop_zero] at this
  exact this

end Go.Proofs.YtjgedenoaocfjaaGreatDoor.KX
namespace Go.Proofs.YtjgedenoaocfjaaGreatDoor.KX

open Go.RowKit Go.Proofs.YtjgedenoaocfjaaGreatDoor.L Go.Proofs.YtjgedenoaocfjaaGreatDoor.Bt Go.Proofs.YtjgedenoaocfjaaGreatDoor.PX

open Go.Proofs.YtjgedenoaocfjaaGreatDoorW.PrintWords Go.Proofs.YtjgedenoaocfjaaGreatDoorW.PrintLast Go.Proofs.YtjgedenoaocfjaaGreatDoorW.PrintMore

theorem specMeta_l0 (l : List (List UInt8)) (B : Nat) (hB : B ≤ 2147483647) (hl : l.length ≤ 2147483648) (hp : ∀ p ∈ l, p.length ≤ B) : ∀ (d k i : Nat), l.length - i = d → i ≤ l.length → B + d < k →
    spec_ValidMeta.l0 k (l.map ofL) ((l.map ofL).length : Int) (i : Int) = some ((l.drop i).all metaP) := by
  intro d
  induction d with
  | zero =>
    intro k i hd hi hk
    obtain ⟨k, rfl⟩ : ∃ m, k = m + 1 := ⟨k - 1, by omega⟩
    simp only [spec_ValidMeta.l0, List.length_map]
    rw [if_neg (by omega), List.drop_of_length_le (by omega)]
    rfl
  | succ d ih =>
    intro k i hd hi hk
    obtain ⟨k, rfl⟩ : ∃ m, k = m + 1 := ⟨k - 1, by omega⟩
    have hlt : i < l.length := by omega
    have hq := hp _ (List.getElem_mem hlt)
    have ih2 := ih k (i + 1) (by omega) (by omega) (by omega)
    simp only [spec_ValidMeta.l0, List.length_map] at ih2 ⊢
    rw [if_pos (by omega), if_pos (by omega), if_pos (by omega), rd_map l i hlt, validIdent_f (ofL l[i]) (by rw [size_ofL]; omega) k (by rw [size_ofL]; omega), Option.bind_some, bl_ofL]
    rw [List.drop_eq_getElem_cons hlt, List.all_cons]
    cases metaP l[i]
    · simp
    · rw [if_pos rfl, w64 (by omega) (by omega), show ((i : Int) + 1) = ((i + 1 : Nat) : Int) by omega, ih2]
      simp

theorem specMeta_f (s : ByteArray) (hs : s.size ≤ 2147483647) (k : Nat) (hk : 2 * s.size + 2 < k) : spec_ValidMeta.f k s = some (metaOk (bl s)) := by
  have hlen := splitL_len 46 (bl s)
  rw [bl_len] at hlen
  unfold spec_ValidMeta.f
  rw [identifiers_f s (by omega) _ (by omega), Option.bind_some]
  have := specMeta_l0 (splitL 46 (bl s)) s.size (by omega) (by omega) (fun p hp => by have := parts_le 46 _ p hp; rw [bl_len] at this; exact this) (splitL 46 (bl s)).length k 0 (by omega) (by omega) (by omega)
  rw [List.drop_zero] at this
  exact this

/-- Good parts: the prerelease empty or valid with no long number, the metadata empty or valid. -/
def partsOk (p m : List UInt8) : Bool := (p == [] || (preOk p && smallOk p)) && (m == [] || metaOk m)

theorem good_f (a b c : Int) (p m : ByteArray) (hp : p.size ≤ 65536) (hm : m.size ≤ 65536) (k : Nat) (hk : 140000 ≤ k) : spec_Good.f k a b c p m = some (partsOk (bl p) (bl m)) := by
  unfold spec_Good.f partsOk
  rw [toList_bl, toList_bl]
  by_cases h1 : bl p = []
  · rw [if_pos h1, h1]
    by_cases h2 : bl m = []
    · rw [if_pos h2, h2]; rfl
    · have e2 : (bl m == []) = false := beq_eq_false_iff_ne.2 h2
      rw [if_neg h2, specMeta_f m (by omega) k (by omega), e2]; rfl
  · have e1 : (bl p == []) = false := beq_eq_false_iff_ne.2 h1
    rw [if_neg h1, e1, validPre_f p (by omega) k (by omega), Option.bind_some]
    cases preOk (bl p)
    · rfl
    · rw [if_pos rfl, smallPre_f p (by omega) k (by omega), Option.bind_some]
      cases smallOk (bl p)
      · rfl
      · rw [if_pos rfl]
        by_cases h2 : bl m = []
        · rw [if_pos h2, h2]; rfl
        · have e2 : (bl m == []) = false := beq_eq_false_iff_ne.2 h2
          rw [if_neg h2, specMeta_f m (by omega) k (by omega), e2]; rfl

theorem short_two_f (s t : ByteArray) (k : Nat) : laws_svShort.f (k + 3) [s, t] = some (decide (s.size ≤ 65536) && decide (t.size ≤ 65536)) := by
  have e0 : rdOf ByteArray.empty [s, t] 0 = s := rfl
  have e1 : rdOf ByteArray.empty [s, t] 1 = t := rfl
  have w1 : wrap64 1 = 1 := by unfold wrap64; omega
  have w2 : wrap64 2 = 2 := by unfold wrap64; omega
  by_cases h : s.size ≤ 65536
  · skip
    by_cases h2 : t.size ≤ 65536
    · skip
      have f3 : ¬ (65536 < (s.size : Int)) := by omega
      have f4 : ¬ (65536 < (t.size : Int)) := by omega
      simp [laws_svShort.f, laws_svShort.l0, e0, e1, h, h2, w1, w2, f3, f4]
    · have f2 : (65536 : Int) < (t.size : Int) := by omega
      have f3 : ¬ (65536 < (s.size : Int)) := by omega
      simp [laws_svShort.f, laws_svShort.l0, e0, e1, h, h2, f2, w1, f3]
  · have f1 : (65536 : Int) < (s.size : Int) := by omega
    simp [laws_svShort.f, laws_svShort.l0, e0, h, f1]

/-- A version's parts, short and good. -/
def goodS (x : S32) : Bool := decide (x.f3.size ≤ 65536) && decide (x.f4.size ≤ 65536) && partsOk (bl x.f3) (bl x.f4)

theorem rdT_get (l : List S32) (i : Nat) (h : i < l.length) : rd_T32 l (i : Int) = l[i] := by
  unfold rd_T32
  rw [Int.toNat_natCast, List.getD_eq_getElem?_getD, List.getElem?_eq_getElem h]; rfl

theorem svGood_l0 (l : List S32) (hl : l.length ≤ 2147483647) : ∀ (d k i : Nat), l.length - i = d → i ≤ l.length → 140000 + d < k →
    laws_svGood.l0 k l (l.length : Int) (i : Int) = some ((l.drop i).all goodS) := by
  intro d
  induction d with
  | zero =>
    intro k i hd hi hk
    obtain ⟨k, rfl⟩ : ∃ m, k = m + 1 := ⟨k - 1, by omega⟩
    simp only [laws_svGood.l0]
    rw [if_neg (by omega), List.drop_of_length_le (by omega)]
    rfl
  | succ d ih =>
    intro k i hd hi hk
    obtain ⟨k, rfl⟩ : ∃ m, k = m + 1 := ⟨k - 1, by omega⟩
    have hlt : i < l.length := by omega
    have ih2 := ih k (i + 1) (by omega) (by omega) (by omega)
    simp only [laws_svGood.l0]
    rw [if_pos (by omega), if_pos (by omega), if_pos (by omega), rdT_get l i hlt]
    rw [show k = (k - 3) + 3 by omega, short_two_f, Option.bind_some, show k - 3 + 3 = k by omega]
    rw [List.drop_eq_getElem_cons hlt, List.all_cons]
    generalize l[i] = x at *
    unfold goodS
    by_cases h3 : x.f3.size ≤ 65536
    · by_cases h4 : x.f4.size ≤ 65536
      · rw [decide_eq_true h3, decide_eq_true h4]
        simp only [Bool.and_self, if_true, Bool.true_and]
        rw [good_f _ _ _ x.f3 x.f4 h3 h4 k (by omega), Option.bind_some]
        cases partsOk (bl x.f3) (bl x.f4)
        · rfl
        · rw [if_pos rfl, w64 (by omega) (by omega), show ((i : Int) + 1) = ((i + 1 : Nat) : Int) by omega, ih2]
          rw [Bool.true_and]; rfl
      · rw [decide_eq_false h4]; simp
    · rw [decide_eq_false h3]; simp

theorem svGood_k (l : List S32) (hl : l.length ≤ 2147483647) (k : Nat) (hk : 140000 + l.length < k) : laws_svGood.f k l = some (l.all goodS) := by
  have := svGood_l0 l hl l.length k 0 (by omega) (by omega) hk
  rw [List.drop_zero] at this
  exact this

end Go.Proofs.YtjgedenoaocfjaaGreatDoor.KX
