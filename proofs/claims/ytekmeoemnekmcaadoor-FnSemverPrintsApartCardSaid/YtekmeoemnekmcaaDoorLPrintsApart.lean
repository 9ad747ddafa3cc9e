/- The statement FnSemverPrintsApart: two versions with valid parts print alike only if they are the same in all parts. For all inputs. -/
import Derived.Test.YtekmeoemnekmcaaDoorPXx5
import Derived.Test.YtekmeoemnekmcaaDoorKGoodX
import Derived.Test.YtekmeoemnekmcaaDoorKTextX
import Derived.Test.YtekmeoemnekmcaaDoorEText
import Derived.Test.YtekmeoemnekmcaaDoorVText
namespace Go.Proofs.YtekmeoemnekmcaaDoor.KX
open Go.RowKit Go.Lib Go.Proofs Go.Proofs.YtekmeoemnekmcaaDoor.Base Go.Proofs.YtekmeoemnekmcaaDoor.L Go.Proofs.YtekmeoemnekmcaaDoor.Bt Go.Proofs.YtekmeoemnekmcaaDoor.Parse Go.Proofs.YtekmeoemnekmcaaDoor.PX
open Go.Proofs.YtekmeoemnekmcaaDoorW.PrintWords Go.Proofs.YtekmeoemnekmcaaDoorW.PrintLast Go.Proofs.YtekmeoemnekmcaaDoorW.PrintMore

theorem tail_inj (c : UInt8) (p q : List UInt8) (h : (if p = [] then [] else c :: p) = (if q = [] then [] else c :: q)) : p = q := by
  by_cases h1 : p = []
  · by_cases h2 : q = []
    · rw [h1, h2]
    · rw [if_pos h1, if_neg h2] at h; cases h
  · by_cases h2 : q = []
    · rw [if_neg h1, if_pos h2] at h; cases h
    · rw [if_neg h1, if_neg h2] at h
      exact (List.cons.inj h).2
theorem tail_or (c : UInt8) (p : List UInt8) : (if p = [] then [] else c :: p) = [] ∨ ∃ u, (if p = [] then [] else c :: p) = c :: u := by
  by_cases h : p = []
  · exact .inl (if_pos h)
  · exact .inr ⟨p, if_neg h⟩
theorem parts_pre (p m : List UInt8) (h : partsOk p m = true) : p = [] ∨ metaOk p = true := by
  unfold partsOk at h
  simp only [Bool.and_eq_true, Bool.or_eq_true, beq_iff_eq] at h
  rcases h.1 with h | h
  · exact .inl h
  · exact .inr (pre_meta p h.1)
theorem core_no (c : UInt8) (hd : isDig c = false) (h46 : c ≠ 46) (a b d : Nat) : ∀ x ∈ Lib.decDigits a ++ [46] ++ Lib.decDigits b ++ [46] ++ Lib.decDigits d, x ≠ c := by
  intro x hx
  simp only [List.mem_append, List.mem_singleton] at hx
  rcases hx with (((hx | hx) | hx) | hx) | hx
  · exact dec_no c hd _ x hx
  · rw [hx]; exact Ne.symm h46
  · exact dec_no c hd _ x hx
  · rw [hx]; exact Ne.symm h46
  · exact dec_no c hd _ x hx
theorem core_inj (a b d a' b' d' : Nat) (h : Lib.decDigits a ++ [46] ++ Lib.decDigits b ++ [46] ++ Lib.decDigits d = Lib.decDigits a' ++ [46] ++ Lib.decDigits b' ++ [46] ++ Lib.decDigits d') : a = a' ∧ b = b' ∧ d = d' := by
  have n := fun k => dec_no 46 (by decide) k
  simp only [List.append_assoc, List.singleton_append, List.cons_append, List.nil_append] at h
  obtain ⟨e1, h1⟩ := cut_inj 46 _ _ _ _ (n a) (n a') (.inr ⟨_, rfl⟩) (.inr ⟨_, rfl⟩) h
  obtain ⟨e2, h2⟩ := cut_inj 46 _ _ _ _ (n b) (n b') (.inr ⟨_, rfl⟩) (.inr ⟨_, rfl⟩) (List.cons.inj h1).2
  exact ⟨dec_inj e1, dec_inj e2, dec_inj (List.cons.inj h2).2⟩
theorem verText_inj (a b d a' b' d' : Nat) (p m p' m' : List UInt8) (h1 : partsOk p m = true) (h2 : partsOk p' m' = true) (h : verText a b d p m = verText a' b' d' p' m') : (a = a' ∧ b = b' ∧ d = d') ∧ p = p' ∧ m = m' := by
  have no43 : ∀ (x y z : Nat) (q n : List UInt8), partsOk q n = true → ∀ u ∈ Lib.decDigits x ++ [46] ++ Lib.decDigits y ++ [46] ++ Lib.decDigits z ++ (if q = [] then [] else 45 :: q), u ≠ 43 := by
    intro x y z q n hq u hu
    rcases List.mem_append.1 hu with hu | hu
    · exact core_no 43 (by decide) (by decide) x y z u hu
    · rcases parts_pre q n hq with rfl | hm
      · simp at hu
      · by_cases e : q = []
        · rw [if_pos e] at hu; cases hu
        · rw [if_neg e] at hu
          rcases List.mem_cons.1 hu with rfl | hu
          · decide
          · exact id_no 43 (by decide) (by decide) q hm u hu
  unfold verText at h
  obtain ⟨e1, e2⟩ := cut_inj 43 _ _ _ _ (no43 a b d p m h1) (no43 a' b' d' p' m' h2) (tail_or 43 m) (tail_or 43 m') h
  obtain ⟨e3, e4⟩ := cut_inj 45 _ _ _ _ (core_no 45 (by decide) (by decide) a b d) (core_no 45 (by decide) (by decide) a' b' d') (tail_or 45 p) (tail_or 45 p') e1
  exact ⟨core_inj a b d a' b' d' e3, tail_inj 45 p p' e4, tail_inj 43 m m' e2⟩
theorem text_f (a b c : Nat) (p m : ByteArray) (ha : a ≤ 18446744073709551615) (hb : b ≤ 18446744073709551615) (hc : c ≤ 18446744073709551615) (hp : p.size ≤ 1000000000000) (hm : m.size ≤ 1000000000000) :
    impl_VersionText.f a b c p m = some (ofL (verText a b c (bl p) (bl m))) := by
  unfold impl_VersionText.f
  rw [if_pos ⟨by omega, by omega, by omega⟩]
  exact string_f a b c p m _ ha hb hc hp hm
theorem pa_j0 (fl : Bool) (a b c a' b' c' : Nat) (p m p' m' : ByteArray) (ha : a ≤ 18446744073709551615) (hb : b ≤ 18446744073709551615) (hc : c ≤ 18446744073709551615) (ha' : a' ≤ 18446744073709551615) (hb' : b' ≤ 18446744073709551615) (hc' : c' ≤ 18446744073709551615) (k : Nat) (hk : 140010 ≤ k) :
    laws_FnSemverPrintsApart.j0 (k + 1) fl a b c p m a' b' c' p' m' = some true := by
  simp only [laws_FnSemverPrintsApart.j0]
  cases fl with
  | true => rfl
  | false =>
    rw [if_neg (by decide), svGood_k _ (by simp) _ (by simp; omega), Option.bind_some]
    split
    · rename_i hg
      simp only [List.all_cons, List.all_nil, Bool.and_true, Bool.and_eq_true, goodS, decide_eq_true_eq] at hg
      obtain ⟨⟨⟨g1, g2⟩, g3⟩, ⟨⟨g4, g5⟩, g6⟩⟩ := hg
      rw [text_f a b c p m ha hb hc (by omega) (by omega), Option.bind_some, text_f a' b' c' p' m' ha' hb' hc' (by omega) (by omega), Option.bind_some]
      refine congrArg some ?_
      rw [beq_iff_eq, Bool.eq_iff_iff]
      simp only [Bool.and_eq_true, beq_iff_eq, toList_bl, bl_ofL]
      constructor
      · intro h
        obtain ⟨⟨rfl, rfl, rfl⟩, e1, e2⟩ := verText_inj a b c a' b' c' _ _ _ _ g3 g6 h
        exact ⟨rfl, rfl, rfl, e1, e2⟩
      · rintro ⟨h1, h2, h3, h4, h5⟩
        have h1 : a = a' := by omega
        have h2 : b = b' := by omega
        have h3 : c = c' := by omega
        rw [h1, h2, h3, h4, h5]
    · rfl
theorem pure_PrintsApart (a b c : Nat) (p m : ByteArray) (a' b' c' : Nat) (p' m' : ByteArray) (ha : a ≤ 18446744073709551615) (hb : b ≤ 18446744073709551615) (hc : c ≤ 18446744073709551615) (ha' : a' ≤ 18446744073709551615) (hb' : b' ≤ 18446744073709551615) (hc' : c' ≤ 18446744073709551615) :
    ∃ k, laws_FnSemverPrintsApart.f k a b c p m a' b' c' p' m' = some true := by
  refine ⟨140011, ?_⟩
  unfold laws_FnSemverPrintsApart.f
  rw [fits14_f, Option.bind_some]
  split
  · rw [fits14_f, Option.bind_some]
    exact pa_j0 _ a b c a' b' c' p m p' m' ha hb hc ha' hb' hc' 140010 (by omega)
  · exact pa_j0 _ a b c a' b' c' p m p' m' ha hb hc ha' hb' hc' 140010 (by omega)
end Go.Proofs.YtekmeoemnekmcaaDoor.KX
