/- The row and the tied card of FnSemverTildeInterval, out of its printed walk and its plain law. For every input that the statement lets in. -/
import Derived.Test.YtllkoadcpobdaaaDoorZCardSemverTildeInterval6
import Derived.Test.YtllkoadcpobdaaaDoorZCardSemverTildeInterval12
namespace Go.Proofs.YtllkoadcpobdaaaDoor.Bt
end Go.Proofs.YtllkoadcpobdaaaDoor.Bt
namespace Go.Proofs.YtllkoadcpobdaaaDoor.L
end Go.Proofs.YtllkoadcpobdaaaDoor.L
namespace Go.Proofs.YtllkoadcpobdaaaDoor.PX
end Go.Proofs.YtllkoadcpobdaaaDoor.PX
namespace Go.Proofs.YtllkoadcpobdaaaDoor.KX

open Go.RowKit Go.Proofs.YtllkoadcpobdaaaDoor.L Go.Proofs.YtllkoadcpobdaaaDoor.Bt Go.Proofs.YtllkoadcpobdaaaDoor.PX

open Go.Proofs.YtllkoadcpobdaaaDoorW.PrintWords Go.Proofs.YtllkoadcpobdaaaDoorW.PrintLast Go.Proofs.YtllkoadcpobdaaaDoorW.PrintMore

theorem zzIndex_l0 (s : ByteArray) (c : UInt8) (hs : s.size ≤ 1000000000000) : ∀ (d k i : Nat), s.size - i = d → i ≤ s.size → d < k →
    semver_zzIndex.l0 k s (ofL [c]) (i : Int) = some (idxR c ((bl s).drop i) i) := by
  intro d
  induction d with
  | zero =>
    intro k i hd hi hk
    obtain ⟨k, rfl⟩ : ∃ m, k = m + 1 := ⟨k - 1, by omega⟩
    have e1 : ((ofL [c]).size : Int) = 1 := rfl
    simp only [semver_zzIndex.l0, e1]
    rw [w64 (by omega) (by omega), if_neg (by omega), List.drop_of_length_le (by rw [bl_len]; omega)]
    rfl
  | succ d ih =>
    intro k i hd hi hk
    obtain ⟨k, rfl⟩ : ∃ m, k = m + 1 := ⟨k - 1, by omega⟩
    have hlt : i < s.size := by omega
    have e1 : ((ofL [c]).size : Int) = 1 := rfl
    have e2 : ((i : Int) + 1).toNat = i + 1 := by omega
    simp only [semver_zzIndex.l0, e1]
    rw [w64 (by omega) (by omega), if_pos (by omega), if_pos (by omega), if_pos (by omega), e2, Int.toNat_natCast]
    by_cases h : (bl s)[i]'(by rw [bl_len]; exact hlt) = c
    · rw [if_pos ((one_bl s c i hlt).2 h), drop_bl s i hlt]
      simp [idxR, fst, h]
    · rw [if_neg (fun e => h ((one_bl s c i hlt).1 e))]
      have := ih k (i + 1) (by omega) (by omega) (by omega)
      rw [show ((i : Int) + 1) = ((i + 1 : Nat) : Int) by omega, this, drop_bl s i hlt]
      congr 1
      unfold idxR
      rw [fst, if_neg h]
      cases fst c ((bl s).drop (i + 1)) <;> simp
      omega

theorem zzIndex_f (s : ByteArray) (c : UInt8) (hs : s.size ≤ 1000000000000) (k : Nat) (hk : s.size < k) : semver_zzIndex.f k s (ofL [c]) = some (idxR c (bl s) 0) := by
  have := zzIndex_l0 s c hs s.size k 0 (by omega) (by omega) hk
  rw [List.drop_zero] at this
  exact this

theorem zzSplit_l0 (c : UInt8) : ∀ (n k : Nat) (s : ByteArray) (acc : List ByteArray), s.size = n → s.size + acc.length ≤ 1000000000000 → s.size + 2 ≤ k →
    semver_zzSplit.l0 k s (ofL [c]) acc = some (acc ++ (splitL c (bl s)).map ofL) := by
  intro n
  induction n using Nat.strongRecOn with
  | ind n ih =>
    intro k s acc hn ha hk
    obtain ⟨k, rfl⟩ : ∃ m, k = m + 1 := ⟨k - 1, by omega⟩
    have e1 : ((ofL [c]).size : Int) = 1 := rfl
    simp only [semver_zzSplit.l0, e1]
    rw [zzIndex_f s c (by omega) k (by omega), Option.bind_some]
    unfold idxR
    cases e : fst c (bl s) with
    | none =>
      simp only
      rw [if_pos (by omega), if_pos (by omega), splitL_fst_none c _ e]
      simp
    | some j =>
      obtain ⟨h1, h2, h3⟩ := fst_some c _ _ e
      rw [bl_len] at h1
      simp only [Nat.zero_add]
      rw [if_neg (by omega), if_pos (by omega), if_pos (by omega), if_pos (by omega), w64 (by omega) (by omega), if_pos (by omega), if_pos (by omega)]
      rw [show ((j : Int) + 1).toNat = j + 1 by omega, Int.toNat_natCast, extract_end, extract_head]
      have hsz : (ofL ((bl s).drop (j + 1))).size = s.size - (j + 1) := by rw [size_ofL, List.length_drop, bl_len]
      rw [ih (s.size - (j + 1)) (by omega) k _ _ hsz (by rw [hsz, List.length_append]; simp; omega) (by rw [hsz]; omega), bl_ofL, splitL_fst_some c _ j e]
      simp

theorem zzSplit_f (s : ByteArray) (c : UInt8) (hs : s.size ≤ 2147483647) (k : Nat) (hk : s.size + 2 ≤ k) : semver_zzSplit.f k s (ofL [c]) = some ((splitL c (bl s)).map ofL) := by
  have := zzSplit_l0 c s.size k s [] rfl (by simp; omega) hk
  rw [List.nil_append] at this
  exact this

end Go.Proofs.YtllkoadcpobdaaaDoor.KX
namespace Go.Proofs.YtllkoadcpobdaaaDoor.KX

open Go.RowKit Go.Proofs.YtllkoadcpobdaaaDoor.L Go.Proofs.YtllkoadcpobdaaaDoor.Bt Go.Proofs.YtllkoadcpobdaaaDoor.PX

open Go.Proofs.YtllkoadcpobdaaaDoorW.PrintWords Go.Proofs.YtllkoadcpobdaaaDoorW.PrintLast Go.Proofs.YtllkoadcpobdaaaDoorW.PrintMore

/-- A part of digits alone with 20 of them or more. -/
def longP (p : List UInt8) : Bool := p.all isDig && !(p == []) && decide (19 < p.length)

def smallOk (l : List UInt8) : Bool := (splitL 46 l).all (fun p => !longP p)

end Go.Proofs.YtllkoadcpobdaaaDoor.KX
namespace Go.Proofs.YtllkoadcpobdaaaDoor.KX

open Go.RowKit Go.Proofs.YtllkoadcpobdaaaDoor.L Go.Proofs.YtllkoadcpobdaaaDoor.Bt Go.Proofs.YtllkoadcpobdaaaDoor.PX

open Go.Proofs.YtllkoadcpobdaaaDoorW.PrintWords Go.Proofs.YtllkoadcpobdaaaDoorW.PrintLast Go.Proofs.YtllkoadcpobdaaaDoorW.PrintMore

theorem fits14_f (a0 a1 a2 : Int) (p m : ByteArray) : laws_zzFits14.f a0 a1 a2 p m = some (decide (p.size ≤ 2147483647) && decide (m.size ≤ 2147483647)) := by
  unfold laws_zzFits14.f
  by_cases h1 : p.size ≤ 2147483647
  · rw [if_neg (by omega), decide_eq_true h1]
    by_cases h2 : m.size ≤ 2147483647
    · rw [if_neg (by omega), decide_eq_true h2]; rfl
    · rw [if_pos (by omega), decide_eq_false h2]; rfl
  · rw [if_pos (by omega), decide_eq_false h1]; rfl

end Go.Proofs.YtllkoadcpobdaaaDoor.KX
