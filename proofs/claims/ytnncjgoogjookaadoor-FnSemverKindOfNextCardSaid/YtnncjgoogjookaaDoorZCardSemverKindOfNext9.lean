/- The row and the tied card of FnSemverKindOfNext, out of its printed walk and its plain law. For every input that the statement lets in. -/
import Derived.Test.YtnncjgoogjookaaDoorZCardSemverKindOfNext4
import Derived.Test.YtnncjgoogjookaaDoorZCardSemverKindOfNext7
import Derived.Test.YtnncjgoogjookaaDoorZCardSemverKindOfNext8
namespace Go.Proofs.YtnncjgoogjookaaDoor.Bt
end Go.Proofs.YtnncjgoogjookaaDoor.Bt
namespace Go.Proofs.YtnncjgoogjookaaDoor.L
end Go.Proofs.YtnncjgoogjookaaDoor.L
namespace Go.Proofs.YtnncjgoogjookaaDoor.PX
end Go.Proofs.YtnncjgoogjookaaDoor.PX
namespace Go.Proofs.YtnncjgoogjookaaDoor.KX

open Go.RowKit Go.Proofs.YtnncjgoogjookaaDoor.L Go.Proofs.YtnncjgoogjookaaDoor.Bt Go.Proofs.YtnncjgoogjookaaDoor.PX

open Go.Proofs.YtnncjgoogjookaaDoorW.PrintWords Go.Proofs.YtnncjgoogjookaaDoorW.PrintLast Go.Proofs.YtnncjgoogjookaaDoorW.PrintMore

theorem isDigit_f (b : UInt8) : spec_isDigit.f (b.toNat : Int) = some (isDig b) := by
  unfold spec_isDigit.f isDig
  have e2 : ((b.toNat : Int) ≤ 57) ↔ b.toNat ≤ 57 := by omega
  by_cases h1 : 48 ≤ b.toNat
  · rw [if_pos (by omega)]; simp [h1, e2]
  · rw [if_neg (by omega)]; simp [h1]

theorem digits_l0 (s : ByteArray) (hs : s.size ≤ 2147483647) : ∀ (d k i : Nat), s.size - i = d → i ≤ s.size → d < k →
    spec_Digits.l0 k s (i : Int) = some (((bl s).drop i).all isDig && !(bl s == [])) := by
  intro d
  induction d with
  | zero =>
    intro k i hd hi hk
    obtain ⟨k, rfl⟩ : ∃ m, k = m + 1 := ⟨k - 1, by omega⟩
    simp only [spec_Digits.l0]
    rw [if_neg (by omega), List.drop_of_length_le (by rw [bl_len]; omega), neNil_bl]
    simp
  | succ d ih =>
    intro k i hd hi hk
    obtain ⟨k, rfl⟩ : ∃ m, k = m + 1 := ⟨k - 1, by omega⟩
    have hlt : i < s.size := by omega
    simp only [spec_Digits.l0]
    rw [if_pos (by omega), if_pos (by omega), bt_bl s i hlt, isDigit_f, Option.bind_some, drop_bl s i hlt, List.all_cons]
    cases isDig _
    · simp
    · rw [w64 (by omega) (by omega), show ((i : Int) + 1) = ((i + 1 : Nat) : Int) by omega, ih k (i + 1) (by omega) (by omega) (by omega)]
      simp

theorem digits_f (s : ByteArray) (hs : s.size ≤ 2147483647) (k : Nat) (hk : s.size < k) : spec_Digits.f k s = some ((bl s).all isDig && !(bl s == [])) := by
  have := digits_l0 s hs s.size k 0 (by omega) (by omega) hk
  rw [List.drop_zero] at this
  exact this

end Go.Proofs.YtnncjgoogjookaaDoor.KX
namespace Go.Proofs.YtnncjgoogjookaaDoor.KX

open Go.RowKit Go.Proofs.YtnncjgoogjookaaDoor.L Go.Proofs.YtnncjgoogjookaaDoor.Bt Go.Proofs.YtnncjgoogjookaaDoor.PX

open Go.Proofs.YtnncjgoogjookaaDoorW.PrintWords Go.Proofs.YtnncjgoogjookaaDoorW.PrintLast Go.Proofs.YtnncjgoogjookaaDoorW.PrintMore

theorem isIdent_f (b : UInt8) : spec_isIdent.f (b.toNat : Int) = some (isId b) := by
  unfold spec_isIdent.f isId
  rw [isDigit_f, Option.bind_some]
  cases isDig b
  · simp only [Bool.false_eq_true, if_false, Bool.false_or]
    have e : ((b.toNat : Int) == 45) = (b == 45) := by
      rw [Bool.eq_iff_iff, beq_iff_eq, beq_iff_eq]
      constructor
      · intro h; apply UInt8.toNat_inj.1; show _ = 45; omega
      · intro h; rw [h]; rfl
    rw [e]
    have a1 : ((65 : Int) ≤ (b.toNat : Int)) ↔ 65 ≤ b.toNat := by omega
    have a2 : ((b.toNat : Int) ≤ 90) ↔ b.toNat ≤ 90 := by omega
    have a3 : ((97 : Int) ≤ (b.toNat : Int)) ↔ 97 ≤ b.toNat := by omega
    have a4 : ((b.toNat : Int) ≤ 122) ↔ b.toNat ≤ 122 := by omega
    simp only [a1, a2, a3, a4]
    by_cases h1 : 65 ≤ b.toNat <;> by_cases h2 : b.toNat ≤ 90 <;> by_cases h3 : 97 ≤ b.toNat <;> by_cases h4 : b.toNat ≤ 122 <;> simp [h1, h2, h3, h4]
  · simp

theorem validIdent_l0 (s : ByteArray) (hs : s.size ≤ 2147483647) : ∀ (d k i : Nat), s.size - i = d → i ≤ s.size → d < k →
    spec_ValidIdent.l0 k s (i : Int) = some (((bl s).drop i).all isId && !(bl s == [])) := by
  intro d
  induction d with
  | zero =>
    intro k i hd hi hk
    obtain ⟨k, rfl⟩ : ∃ m, k = m + 1 := ⟨k - 1, by omega⟩
    simp only [spec_ValidIdent.l0]
    rw [if_neg (by omega), List.drop_of_length_le (by rw [bl_len]; omega), neNil_bl]
    simp
  | succ d ih =>
    intro k i hd hi hk
    obtain ⟨k, rfl⟩ : ∃ m, k = m + 1 := ⟨k - 1, by omega⟩
    have hlt : i < s.size := by omega
    simp only [spec_ValidIdent.l0]
    rw [if_pos (by omega), if_pos (by omega), bt_bl s i hlt, isIdent_f, Option.bind_some, drop_bl s i hlt, List.all_cons]
    cases isId _
    · simp
    · rw [w64 (by omega) (by omega), show ((i : Int) + 1) = ((i + 1 : Nat) : Int) by omega, ih k (i + 1) (by omega) (by omega) (by omega)]
      simp

theorem validIdent_f (s : ByteArray) (hs : s.size ≤ 2147483647) (k : Nat) (hk : s.size < k) : spec_ValidIdent.f k s = some (metaP (bl s)) := by
  have := validIdent_l0 s hs s.size k 0 (by omega) (by omega) hk
  rw [List.drop_zero] at this
  unfold metaP
  rw [Bool.and_comm]
  exact this

end Go.Proofs.YtnncjgoogjookaaDoor.KX
namespace Go.Proofs.YtnncjgoogjookaaDoor.KX

open Go.RowKit Go.Proofs.YtnncjgoogjookaaDoor.L Go.Proofs.YtnncjgoogjookaaDoor.Bt Go.Proofs.YtnncjgoogjookaaDoor.PX

open Go.Proofs.YtnncjgoogjookaaDoorW.PrintWords Go.Proofs.YtnncjgoogjookaaDoorW.PrintLast Go.Proofs.YtnncjgoogjookaaDoorW.PrintMore

theorem identifiers_l0 (s : ByteArray) (hs : s.size ≤ 2147483647) : ∀ (d k i a : Nat) (acc : List ByteArray), s.size - i = d → i ≤ s.size → a ≤ i → d < k → acc.length ≤ i →
    ∀ h t, splitL 46 ((bl s).drop i) = h :: t →
    spec_Identifiers.l0 k s acc (a : Int) (i : Int) = some (acc ++ ofL ((((bl s).drop a).take (i - a)) ++ h) :: t.map ofL) := by
  intro d
  induction d with
  | zero =>
    intro k i a acc hd hi ha hk hac h t e
    obtain ⟨k, rfl⟩ : ∃ m, k = m + 1 := ⟨k - 1, by omega⟩
    simp only [spec_Identifiers.l0]
    rw [if_neg (by omega), if_pos (by omega), if_pos (by omega), if_pos (by omega), Int.toNat_natCast, extract_end]
    rw [List.drop_of_length_le (by rw [bl_len]; omega)] at e
    simp only [splitL, List.cons.injEq] at e
    obtain ⟨rfl, rfl⟩ := e
    rw [List.take_of_length_le (by rw [List.length_drop, bl_len]; omega)]
    simp
  | succ d ih =>
    intro k i a acc hd hi ha hk hac h t e
    obtain ⟨k, rfl⟩ : ∃ m, k = m + 1 := ⟨k - 1, by omega⟩
    have hlt : i < s.size := by omega
    simp only [spec_Identifiers.l0]
    rw [if_pos (by omega), if_pos (by omega), bt_bl s i hlt]
    rw [drop_bl s i hlt, splitL] at e
    by_cases hc : (bl s)[i]'(by rw [bl_len]; exact hlt) = 46
    · rw [if_pos hc] at e
      simp only [List.cons.injEq] at e
      obtain ⟨rfl, rfl⟩ := e
      rw [if_pos (by rw [hc]; rfl), if_pos (by omega), if_pos (by omega), if_pos (by omega), if_pos (by omega), w64 (by omega) (by omega)]
      rw [show ((i : Int) + 1) = ((i + 1 : Nat) : Int) by omega, Int.toNat_natCast, Int.toNat_natCast, extract_ofL]
      obtain ⟨h', t', e'⟩ : ∃ h' t', splitL 46 ((bl s).drop (i + 1)) = h' :: t' := by
        cases q : splitL 46 ((bl s).drop (i + 1)) with
        | nil => exact absurd q (splitL_ne _ _)
        | cons h' t' => exact ⟨h', t', rfl⟩
      rw [ih k (i + 1) (i + 1) _ (by omega) (by omega) (by omega) (by omega) (by rw [List.length_append]; simp; omega) h' t' e', e']
      simp
    · rw [if_neg hc] at e
      obtain ⟨h', t', e'⟩ : ∃ h' t', splitL 46 ((bl s).drop (i + 1)) = h' :: t' := by
        cases q : splitL 46 ((bl s).drop (i + 1)) with
        | nil => exact absurd q (splitL_ne _ _)
        | cons h' t' => exact ⟨h', t', rfl⟩
      rw [e'] at e
      simp only [List.cons.injEq] at e
      obtain ⟨rfl, rfl⟩ := e
      rw [if_neg (by intro q; apply hc; apply UInt8.toNat_inj.1; show _ = 46; omega), w64 (by omega) (by omega), show ((i : Int) + 1) = ((i + 1 : Nat) : Int) by omega]
      rw [ih k (i + 1) a _ (by omega) (by omega) (by omega) (by omega) (by omega) h' t' e', take_snoc (bl s) a i (by rw [bl_len]; exact hlt) ha]
      simp

theorem identifiers_f (s : ByteArray) (hs : s.size ≤ 2147483647) (k : Nat) (hk : s.size < k) : spec_Identifiers.f k s = some ((splitL 46 (bl s)).map ofL) := by
  cases q : splitL 46 (bl s) with
  | nil => exact absurd q (splitL_ne _ _)
  | cons h t =>
    have := identifiers_l0 s hs s.size k 0 0 [] (by omega) (by omega) (by omega) hk (by simp) h t (by simpa using q)
    rw [List.nil_append, List.drop_zero, Nat.sub_zero, List.take_zero, List.nil_append] at this
    exact this

end Go.Proofs.YtnncjgoogjookaaDoor.KX
namespace Go.Proofs.YtnncjgoogjookaaDoor.SplitX

open Go.RowKit Go.Proofs.YtnncjgoogjookaaDoor.L Go.Proofs.YtnncjgoogjookaaDoor.PX

open Go.Proofs.YtnncjgoogjookaaDoorW.PrintWords Go.Proofs.YtnncjgoogjookaaDoorW.PrintLast Go.Proofs.YtnncjgoogjookaaDoorW.PrintMore

theorem w64 {a : Int} (h0 : 0 ≤ a) (h1 : a ≤ 9223372036854775807) : wrap64 a = a := by unfold wrap64; omega

theorem bt_bl (s : ByteArray) (i : Nat) (h : i < s.size) : bt s (i : Int) = ((bl s)[i]'(by rw [bl_len]; exact h)).toNat := by
  rw [← bt_at s (i : Int) (by simpa using h)]
  simp only [Int.toNat_natCast]
  rfl

theorem drop_bl (s : ByteArray) (i : Nat) (h : i < s.size) : (bl s).drop i = (bl s)[i]'(by rw [bl_len]; exact h) :: (bl s).drop (i + 1) := List.drop_eq_getElem_cons (by rw [bl_len]; exact h)

theorem one_bl (s : ByteArray) (c : UInt8) (i : Nat) (h : i < s.size) : ((s.extract i (i + 1)).toList = (ofL [c]).toList) ↔ (bl s)[i]'(by rw [bl_len]; exact h) = c := by
  rw [ByteArray.toList_eq, ByteArray.toList_eq]
  show bl _ = bl _ ↔ _
  rw [bl_extract, bl_ofL, drop_bl s i h, show i + 1 - i = 1 by omega, List.take_succ_cons, List.take_zero]
  simp

def idxR (c : UInt8) (l : List UInt8) (i : Nat) : Int := match fst c l with | none => -1 | some j => ((i + j : Nat) : Int)

theorem zzIndex_l0 (s : ByteArray) (c : UInt8) (hs : s.size ≤ 1000000000000) : ∀ (d k i : Nat), s.size - i = d → i ≤ s.size → d < k →
    semver_zzIndex.l0 k s (ofL [c]) (i : Int) = some (idxR c ((bl s).drop i) i) := by
  intro d
  induction d with
  | zero =>
    intro k i hd hi hk
    obtain ⟨k, rfl⟩ : ∃ m, k = m + 1 := ⟨k - 1, by omega⟩
    have e1 : ((ofL [c]).size : Int) = 1 := rfl
    simp only [semver_zzIndex.l0, e1]
    rw [w64 (by omega) (by omega), if_neg (by omega), List.drop_of_length_le (by rw [bl_len]; omega)]
    rfl
  | succ d ih =>
    intro k i hd hi hk
    obtain ⟨k, rfl⟩ : ∃ m, k = m + 1 := ⟨k - 1, by omega⟩
    have hlt : i < s.size := by omega
    have e1 : ((ofL [c]).size : Int) = 1 := rfl
    have e2 : ((i : Int) + 1).toNat = i + 1 := by omega
    simp only [semver_zzIndex.l0, e1]
    rw [w64 (by omega) (by omega), if_pos (by omega), if_pos (by omega), if_pos (by omega), e2, Int.toNat_natCast]
    by_cases h : (bl s)[i]'(by rw [bl_len]; exact hlt) = c
    · rw [if_pos ((one_bl s c i hlt).2 h), drop_bl s i hlt]
      simp [idxR, fst, h]
    · rw [if_neg (fun e => h ((one_bl s c i hlt).1 e))]
      have := ih k (i + 1) (by omega) (by omega) (by omega)
      rw [show ((i : Int) + 1) = ((i + 1 : Nat) : Int) by omega, this, drop_bl s i hlt]
      congr 1
      unfold idxR
      rw [fst, if_neg h]
      cases fst c ((bl s).drop (i + 1)) <;> simp
      omega

theorem zzIndex_f (s : ByteArray) (c : UInt8) (hs : s.size ≤ 1000000000000) (k : Nat) (hk : s.size < k) : semver_zzIndex.f k s (ofL [c]) = some (idxR c (bl s) 0) := by
  have := zzIndex_l0 s c hs s.size k 0 (by omega) (by omega) hk
  rw [List.drop_zero] at this
  exact this

theorem zzSplit_l0 (c : UInt8) : ∀ (n k : Nat) (s : ByteArray) (acc : List ByteArray), s.size = n → s.size + acc.length ≤ 1000000000000 → s.size + 2 ≤ k →
    semver_zzSplit.l0 k s (ofL [c]) acc = some (acc ++ (splitL c (bl s)).map ofL) := by
  intro n
  induction n using Nat.strongRecOn with
  | ind n ih =>
    intro k s acc hn ha hk
    obtain ⟨k, rfl⟩ : ∃ m, k = m + 1 := ⟨k - 1, by omega⟩
    have e1 : ((ofL [c]).size : Int) = 1 := rfl
    simp only [semver_zzSplit.l0, e1]
    rw [zzIndex_f s c (by omega) k (by omega), Option.bind_some]
    unfold idxR
    cases e : fst c (bl s) with
    | none =>
      simp only
      rw [if_pos (by omega), if_pos (by omega), splitL_fst_none c _ e]
      simp
    | some j =>
      obtain ⟨h1, h2, h3⟩ := fst_some c _ _ e
      rw [bl_len] at h1
      simp only [Nat.zero_add]
      rw [if_neg (by omega), if_pos (by omega), if_pos (by omega), if_pos (by omega), w64 (by omega) (by omega), if_pos (by omega), if_pos (by omega)]
      rw [show ((j : Int) + 1).toNat = j + 1 by omega, Int.toNat_natCast, extract_end, extract_head]
      have hsz : (ofL ((bl s).drop (j + 1))).size = s.size - (j + 1) := by rw [size_ofL, List.length_drop, bl_len]
      rw [ih (s.size - (j + 1)) (by omega) k _ _ hsz (by rw [hsz, List.length_append]; simp; omega) (by rw [hsz]; omega), bl_ofL, splitL_fst_some c _ j e]
      simp

theorem zzSplit_f (s : ByteArray) (c : UInt8) (hs : s.size ≤ 2147483647) (k : Nat) (hk : s.size + 2 ≤ k) : semver_zzSplit.f k s (ofL [c]) = some ((splitL c (bl s)).map ofL) := by
  have := zzSplit_l0 c s.size k s [] rfl (by simp; omega) hk
  rw [List.nil_append] at this
  exact this

end Go.Proofs.YtnncjgoogjookaaDoor.SplitX
namespace Go.Proofs.YtnncjgoogjookaaDoor.KX

open Go.RowKit Go.Proofs.YtnncjgoogjookaaDoor.L Go.Proofs.YtnncjgoogjookaaDoor.Bt Go.Proofs.YtnncjgoogjookaaDoor.PX

open Go.Proofs.YtnncjgoogjookaaDoorW.PrintWords Go.Proofs.YtnncjgoogjookaaDoorW.PrintLast Go.Proofs.YtnncjgoogjookaaDoorW.PrintMore

theorem zzIndex_l0 (s : ByteArray) (c : UInt8) (hs : s.size ≤ 1000000000000) : ∀ (d k i : Nat), s.size - i = d → i ≤ s.size → d < k →
    semver_zzIndex.l0 k s (ofL [c]) (i : Int) = some (idxR c ((bl s).drop i) i) := by
  intro d
  induction d with
  | zero =>
    intro k i hd hi hk
    obtain ⟨k, rfl⟩ : ∃ m, k = m + 1 := ⟨k - 1, by omega⟩
    have e1 : ((ofL [c]).size : Int) = 1 := rfl
    simp only [semver_zzIndex.l0, e1]
    rw [w64 (by omega) (by omega), if_neg (by omega), List.drop_of_length_le (by rw [bl_len]; omega)]
    rfl
  | succ d ih =>
    intro k i hd hi hk
    obtain ⟨k, rfl⟩ : ∃ m, k = m + 1 := ⟨k - 1, by omega⟩
    have hlt : i < s.size := by omega
    have e1 : ((ofL [c]).size : Int) = 1 := rfl
    have e2 : ((i : Int) + 1).toNat = i + 1 := by omega
    simp only [semver_zzIndex.l0, e1]
    rw [w64 (by omega) (by omega), if_pos (by omega), if_pos (by omega), if_pos (by omega), e2, Int.toNat_natCast]
    by_cases h : (bl s)[i]'(by rw [bl_len]; exact hlt) = c
    · rw [if_pos ((one_bl s c i hlt).2 h), drop_bl s i hlt]
      simp [idxR, fst, h]
    · rw [if_neg (fun e => h ((one_bl s c i hlt).1 e))]
      have := ih k (i + 1) (by omega) (by omega) (by omega)
      rw [show ((i : Int) + 1) = ((i + 1 : Nat) : Int) by omega, this, drop_bl s i hlt]
      congr 1
      unfold idxR
      rw [fst, if_neg h]
      cases fst c ((bl s).drop (i + 1)) <;> simp
      omega

theorem zzIndex_f (s : ByteArray) (c : UInt8) (hs : s.size ≤ 1000000000000) (k : Nat) (hk : s.size < k) : semver_zzIndex.f k s (ofL [c]) = some (idxR c (bl s) 0) := by
  have := zzIndex_l0 s c hs s.size k 0 (by omega) (by omega) hk
  rw [List.drop_zero] at this
  exact this

end Go.Proofs.YtnncjgoogjookaaDoor.KX
namespace Go.Proofs.YtnncjgoogjookaaDoor.KX

open Go.RowKit Go.Proofs.YtnncjgoogjookaaDoor.L Go.Proofs.YtnncjgoogjookaaDoor.Bt Go.Proofs.YtnncjgoogjookaaDoor.PX

open Go.Proofs.YtnncjgoogjookaaDoorW.PrintWords Go.Proofs.YtnncjgoogjookaaDoorW.PrintLast Go.Proofs.YtnncjgoogjookaaDoorW.PrintMore

/-- The text parted at its first m bytes c. -/
def splitNL (c : UInt8) : Nat → List UInt8 → List (List UInt8)
  | 0, l => [l]
  | m + 1, l => match fst c l with
    | none => [l]
    | some j => l.take j :: splitNL c m (l.drop (j + 1))

theorem zzSplitN_l0 (c : UInt8) (N : Nat) (hN : N ≤ 100) : ∀ (m k : Nat) (s : ByteArray) (acc : List ByteArray), acc.length + m = N → s.size ≤ 1000000000000 → s.size + m + 1 ≤ k →
    semver_zzSplitN.l0 k s (ofL [c]) ((N : Int) + 1) acc = some (acc ++ (splitNL c m (bl s)).map ofL) := by
  intro m
  induction m with
  | zero =>
    intro k s acc hm hs hk
    obtain ⟨k, rfl⟩ : ∃ m, k = m + 1 := ⟨k - 1, by omega⟩
    simp only [semver_zzSplitN.l0]
    rw [show (N : Int) + 1 - 1 = (N : Int) by omega, w64 (by omega) (by omega), if_neg (by omega), if_pos (by omega)]
    simp [splitNL]
  | succ m ih =>
    intro k s acc hm hs hk
    obtain ⟨k, rfl⟩ : ∃ m, k = m + 1 := ⟨k - 1, by omega⟩
    have e1 : ((ofL [c]).size : Int) = 1 := rfl
    simp only [semver_zzSplitN.l0, e1]
    rw [show (N : Int) + 1 - 1 = (N : Int) by omega, w64 (by omega) (by omega), if_pos (by omega), zzIndex_f s c (by omega) k (by omega), Option.bind_some]
    unfold idxR splitNL
    cases e : fst c (bl s) with
    | none =>
      simp only
      rw [if_pos (by omega), if_pos (by omega)]
      simp
    | some j =>
      obtain ⟨h1, h2, h3⟩ := fst_some c _ _ e
      rw [bl_len] at h1
      simp only [Nat.zero_add]
      rw [if_neg (by omega), if_pos (by omega), if_pos (by omega), if_pos (by omega), w64 (by omega) (by omega), if_pos (by omega), if_pos (by omega)]
      rw [show ((j : Int) + 1).toNat = j + 1 by omega, Int.toNat_natCast, extract_end, extract_head]
      have hsz : (ofL ((bl s).drop (j + 1))).size = s.size - (j + 1) := by rw [size_ofL, List.length_drop, bl_len]
      rw [ih k _ _ (by rw [List.length_append]; simp; omega) (by rw [hsz]; omega) (by rw [hsz]; omega), bl_ofL]
      simp

theorem zzSplitN_f (s : ByteArray) (c : UInt8) (N : Nat) (hN : N ≤ 100) (hs : s.size ≤ 2147483647) (k : Nat) (hk : s.size + N + 1 ≤ k) : semver_zzSplitN.f k s (ofL [c]) ((N : Int) + 1) = some ((splitNL c N (bl s)).map ofL) := by
  have := zzSplitN_l0 c N hN N k s [] (by simp) (by omega) hk
  rw [List.nil_append] at this
  exact this

theorem zzContains_f (s : ByteArray) (c : UInt8) (hs : s.size ≤ 2147483647) (k : Nat) (hk : s.size < k) : semver_zzContains.f k s (ofL [c]) = some (fst c (bl s)).isSome := by
  unfold semver_zzContains.f
  rw [zzIndex_f s c (by omega) k hk, Option.bind_some]
  unfold idxR
  cases fst c (bl s) with
  | none => rfl
  | some j => simp

end Go.Proofs.YtnncjgoogjookaaDoor.KX
