/- The row and the tied card of FnSemverApart, out of its printed walk and its plain law. For every input that the statement lets in. -/
import Derived.Test.YtllkoadcpobdaaaDoorZCardSemverApart7
import Derived.Test.YtllkoadcpobdaaaDoorZCardSemverApart8
import Derived.Test.YtllkoadcpobdaaaDoorZCardSemverApart10
import Derived.Test.YtllkoadcpobdaaaDoorZCardSemverApart16
import Derived.Test.YtllkoadcpobdaaaDoorZCardSemverApart20
import Derived.Test.YtllkoadcpobdaaaDoorZCardSemverApart25
import Derived.Test.YtllkoadcpobdaaaDoorZCardSemverApart27
import Derived.Test.YtllkoadcpobdaaaDoorZCardSemverApart28
import Derived.Deep.RegionWith
import Derived.RegionTactic
import Derived.Deep.RegionHeld3
namespace Go.Proofs.YtllkoadcpobdaaaDoor.Base
end Go.Proofs.YtllkoadcpobdaaaDoor.Base
namespace Go.Proofs.YtllkoadcpobdaaaDoor.Bt
end Go.Proofs.YtllkoadcpobdaaaDoor.Bt
namespace Go.Proofs.YtllkoadcpobdaaaDoor.L
end Go.Proofs.YtllkoadcpobdaaaDoor.L
namespace Go.Proofs.YtllkoadcpobdaaaDoor.PX
end Go.Proofs.YtllkoadcpobdaaaDoor.PX
namespace Go.Proofs.YtllkoadcpobdaaaDoor.Parse
end Go.Proofs.YtllkoadcpobdaaaDoor.Parse
namespace Go.Proofs.YtllkoadcpobdaaaDoor.KX

open Go Go.RowKit Go.Lib Go.Sort Go.Proofs Go.Proofs.YtllkoadcpobdaaaDoor Go.Proofs.YtllkoadcpobdaaaDoor.Base Go.Proofs.YtllkoadcpobdaaaDoor.L Go.Proofs.YtllkoadcpobdaaaDoor.Bt Go.Proofs.YtllkoadcpobdaaaDoor.Parse Go.Proofs.YtllkoadcpobdaaaDoor.PX

open Go.Proofs.YtllkoadcpobdaaaDoorW.PrintWords Go.Proofs.YtllkoadcpobdaaaDoorW.PrintLast Go.Proofs.YtllkoadcpobdaaaDoorW.PrintMore

set_option linter.unusedVariables false

set_option linter.unusedSimpArgs false

theorem num_facts (a b c A B C : Nat) : (numC 1 a b c A B C = -1 ∨ numC 1 a b c A B C = 0 ∨ numC 1 a b c A B C = 1) ∧ (numC 2 a b c A B C = -1 ∨ numC 2 a b c A B C = 0 ∨ numC 2 a b c A B C = 1) ∧ (numC 3 a b c A B C = -1 ∨ numC 3 a b c A B C = 0 ∨ numC 3 a b c A B C = 1) ∧
    (numC 1 a b c A B C < 0 → numC 2 a b c A B C < 0) ∧ (numC 2 a b c A B C < 0 → numC 3 a b c A B C < 0) ∧ (C = 0 → numC 3 a b c A B C < 0 → numC 2 a b c A B C < 0) ∧ (B = 0 → numC 2 a b c A B C < 0 → numC 1 a b c A B C < 0) := by
  unfold numC
  rcases seg_cases a A with ⟨h1, s1⟩ | ⟨h1, s1⟩ | ⟨h1, s1⟩ <;> rcases seg_cases b B with ⟨h2, s2⟩ | ⟨h2, s2⟩ | ⟨h2, s2⟩ <;> rcases seg_cases c C with ⟨h3, s3⟩ | ⟨h3, s3⟩ | ⟨h3, s3⟩ <;> simp [s1, s2, s3] <;> omega

theorem verC_num (v N : Ver) (hv : bl v.pre = []) : verC v N = if numC 3 v.ma v.mi v.pa N.ma N.mi N.pa = 0 then (if bl N.pre = [] then 0 else 1) else numC 3 v.ma v.mi v.pa N.ma N.mi N.pa := by
  unfold verC numC preAny
  rw [hv]
  rcases seg_cases v.ma N.ma with ⟨h1, s1⟩ | ⟨h1, s1⟩ | ⟨h1, s1⟩ <;> rcases seg_cases v.mi N.mi with ⟨h2, s2⟩ | ⟨h2, s2⟩ | ⟨h2, s2⟩ <;> rcases seg_cases v.pa N.pa with ⟨h3, s3⟩ | ⟨h3, s3⟩ | ⟨h3, s3⟩ <;> by_cases h : bl N.pre = [] <;> simp [s1, s2, s3, h]

/-- Two releases stand alike to a version's numbers. -/
structure Alike (v p N : Ver) : Prop where
  neg : numC 3 v.ma v.mi v.pa N.ma N.mi N.pa < 0 ↔ numC 3 p.ma p.mi p.pa N.ma N.mi N.pa < 0
  one : 0 < numC 1 v.ma v.mi v.pa N.ma N.mi N.pa ↔ 0 < numC 1 p.ma p.mi p.pa N.ma N.mi N.pa
  two : 0 < numC 2 v.ma v.mi v.pa N.ma N.mi N.pa ↔ 0 < numC 2 p.ma p.mi p.pa N.ma N.mi N.pa
  three : 0 < numC 3 v.ma v.mi v.pa N.ma N.mi N.pa ↔ 0 < numC 3 p.ma p.mi p.pa N.ma N.mi N.pa

theorem alike_verC {v p N : Ver} (hv : bl v.pre = []) (hp : bl p.pre = []) (h : Alike v p N) : verC v N = verC p N := by
  obtain ⟨_, _, a3, _⟩ := num_facts v.ma v.mi v.pa N.ma N.mi N.pa
  obtain ⟨_, _, b3, _⟩ := num_facts p.ma p.mi p.pa N.ma N.mi N.pa
  have e : numC 3 v.ma v.mi v.pa N.ma N.mi N.pa = numC 3 p.ma p.mi p.pa N.ma N.mi N.pa := by
    have h1 := h.neg; have h3 := h.three
    omega
  rw [verC_num v N hv, verC_num p N hp, e]

theorem alike_keep {v p N : Ver} (hv : bl v.pre = []) (hp : bl p.pre = []) (h : Alike v p N) (k : Int) (hk : k = 0 ∨ k = 1 ∨ k = 2 ∨ k = 3) :
    (decide (0 ≤ verC v N) && (numC k v.ma v.mi v.pa N.ma N.mi N.pa == 0)) = (decide (0 ≤ verC p N) && (numC k p.ma p.mi p.pa N.ma N.mi N.pa == 0)) := by
  have e := alike_verC hv hp h
  obtain ⟨a1, a2, a3, a4, a5, _⟩ := num_facts v.ma v.mi v.pa N.ma N.mi N.pa
  obtain ⟨b1, b2, b3, b4, b5, _⟩ := num_facts p.ma p.mi p.pa N.ma N.mi N.pa
  have g1 := h.one; have g2 := h.two; have g3 := h.three; have g0 := h.neg
  rw [← e]
  by_cases hz : 0 ≤ verC v N
  · rw [decide_eq_true hz, Bool.true_and, Bool.true_and, Bool.eq_iff_iff, beq_iff_eq, beq_iff_eq]
    have hn : ¬ numC 3 v.ma v.mi v.pa N.ma N.mi N.pa < 0 := by
      intro hlt
      rw [verC_num v N hv, if_neg (by omega)] at hz
      omega
    rcases hk with rfl | rfl | rfl | rfl
    · rw [numC_zero, numC_zero]
    · omega
    · omega
    · omega
  · rw [decide_eq_false hz, Bool.false_and, Bool.false_and]

theorem alike_upper {v p N : Ver} (hv : bl v.pre = []) (hp : bl p.pre = []) (h : Alike v p N) (gv : Int) (g0 : 0 ≤ gv) (g3 : gv ≤ 3) (hpa : gv < 3 → N.pa = 0) (hmi : gv < 2 → N.mi = 0) : upperC gv v N = upperC gv p N := by
  unfold upperC
  by_cases e3 : gv = 3
  · rw [if_pos e3, if_pos e3, alike_verC hv hp h]
  · rw [if_neg e3, if_neg e3]
    obtain ⟨a1, a2, a3, a4, a5, a6, a7⟩ := num_facts v.ma v.mi v.pa N.ma N.mi N.pa
    obtain ⟨b1, b2, b3, b4, b5, b6, b7⟩ := num_facts p.ma p.mi p.pa N.ma N.mi N.pa
    have g1 := h.one; have g2 := h.two; have g0' := h.neg
    have hc := hpa (by omega)
    have e : gv = 0 ∨ gv = 1 ∨ gv = 2 := by omega
    rcases e with rfl | rfl | rfl
    · rw [numC_zero, numC_zero]
    · have hb := hmi (by omega)
      have := a6 hc; have := a7 hb; have := b6 hc; have := b7 hb
      omega
    · have := a6 hc; have := b6 hc
      omega

theorem comp_same {v p N : Ver} (op gv : Int) (hv : bl v.pre = []) (hp : bl p.pre = []) (h : Alike v p N) (g0 : 0 ≤ gv) (g3 : gv ≤ 3) (hpa : gv < 3 → N.pa = 0) (hmi : gv < 2 → N.mi = 0) : compB op gv v N = compB op gv p N := by
  have e1 := alike_verC hv hp h
  have e2 := alike_upper hv hp h gv g0 g3 hpa hmi
  have e3 := alike_keep hv hp h (mn 2 gv) (by unfold mn; split <;> omega)
  have e4 := alike_keep hv hp h (caretN gv N.ma N.mi N.pa) (by unfold caretN; repeat' split; all_goals omega)
  unfold compB
  rw [e3, e4, e2, e1]

theorem pos_one (a b c A B C : Nat) : 0 < numC 1 a b c A B C ↔ A < a := by
  unfold numC
  rcases seg_cases a A with ⟨h1, s1⟩ | ⟨h1, s1⟩ | ⟨h1, s1⟩ <;> simp [s1] <;> omega

theorem pos_two (a b c A B C : Nat) : 0 < numC 2 a b c A B C ↔ (A < a ∨ A = a ∧ B < b) := by
  unfold numC
  rcases seg_cases a A with ⟨h1, s1⟩ | ⟨h1, s1⟩ | ⟨h1, s1⟩ <;> rcases seg_cases b B with ⟨h2, s2⟩ | ⟨h2, s2⟩ | ⟨h2, s2⟩ <;> simp [s1, s2] <;> omega

theorem pos_three (a b c A B C : Nat) : 0 < numC 3 a b c A B C ↔ (A < a ∨ A = a ∧ (B < b ∨ B = b ∧ C < c)) := by
  unfold numC
  rcases seg_cases a A with ⟨h1, s1⟩ | ⟨h1, s1⟩ | ⟨h1, s1⟩ <;> rcases seg_cases b B with ⟨h2, s2⟩ | ⟨h2, s2⟩ | ⟨h2, s2⟩ <;> rcases seg_cases c C with ⟨h3, s3⟩ | ⟨h3, s3⟩ | ⟨h3, s3⟩ <;> simp [s1, s2, s3] <;> omega

theorem neg_three (a b c A B C : Nat) : numC 3 a b c A B C < 0 ↔ Low a b c A B C := by
  unfold numC Low
  rcases seg_cases a A with ⟨h1, s1⟩ | ⟨h1, s1⟩ | ⟨h1, s1⟩ <;> rcases seg_cases b B with ⟨h2, s2⟩ | ⟨h2, s2⟩ | ⟨h2, s2⟩ <;> rcases seg_cases c C with ⟨h3, s3⟩ | ⟨h3, s3⟩ | ⟨h3, s3⟩ <;> simp [s1, s2, s3] <;> omega

theorem ex_some {o : Nat × Nat × Nat} {q : Nat × Nat × Nat → Prop} : (∃ x, some o = some x ∧ q x) ↔ q o := ⟨fun ⟨x, e, h⟩ => by cases e; exact h, fun h => ⟨o, rfl, h⟩⟩

theorem ex_none {q : Nat × Nat × Nat → Prop} : (∃ x, (none : Option (Nat × Nat × Nat)) = some x ∧ q x) ↔ False := ⟨fun h => (by obtain ⟨x, e, _⟩ := h; cases e), fun h => h.elim⟩

/-- Where a release stands to the release right above. -/
theorem blk_pos (k : Int) (a b c A B C : Nat) (hk : k = 1 ∨ k = 2 ∨ k = 3) (ha : a < 18446744073709551616) (hb : b < 18446744073709551616) (hc : c < 18446744073709551616) :
    0 < numC k a b c A B C ↔ ∃ x, blkF k A B C = some x ∧ ¬ Low a b c x.1 x.2.1 x.2.2 := by
  rcases hk with rfl | rfl | rfl
  · rw [pos_one]
    unfold blkF Low
    repeat' split
    all_goals first | rw [ex_some] | rw [ex_none]
    all_goals (try dsimp only)
    all_goals (try simp only [iff_false])
    all_goals omega
  · rw [pos_two]
    unfold blkF Low
    repeat' split
    all_goals first | rw [ex_some] | rw [ex_none]
    all_goals (try dsimp only)
    all_goals (try simp only [iff_false])
    all_goals omega
  · rw [pos_three]
    unfold blkF Low
    repeat' split
    all_goals first | rw [ex_some] | rw [ex_none]
    all_goals (try dsimp only)
    all_goals (try simp only [iff_false])
    all_goals omega

/-- A release that stands alike to the numbers and to the three releases right above. -/
theorem alike_of (v p N : Ver) (hv1 : v.ma < 18446744073709551616) (hv2 : v.mi < 18446744073709551616) (hv3 : v.pa < 18446744073709551616) (hp1 : p.ma < 18446744073709551616) (hp2 : p.mi < 18446744073709551616) (hp3 : p.pa < 18446744073709551616)
    (h0 : Low v.ma v.mi v.pa N.ma N.mi N.pa ↔ Low p.ma p.mi p.pa N.ma N.mi N.pa)
    (hB : ∀ k : Int, k = 1 ∨ k = 2 ∨ k = 3 → ∀ x, blkF k N.ma N.mi N.pa = some x → (Low v.ma v.mi v.pa x.1 x.2.1 x.2.2 ↔ Low p.ma p.mi p.pa x.1 x.2.1 x.2.2)) : Alike v p N := by
  have hk : ∀ k : Int, k = 1 ∨ k = 2 ∨ k = 3 → (0 < numC k v.ma v.mi v.pa N.ma N.mi N.pa ↔ 0 < numC k p.ma p.mi p.pa N.ma N.mi N.pa) := by
    intro k hk
    rw [blk_pos k _ _ _ _ _ _ hk hv1 hv2 hv3, blk_pos k _ _ _ _ _ _ hk hp1 hp2 hp3]
    constructor
    · rintro ⟨x, e, h⟩
      exact ⟨x, e, fun h2 => h ((hB k hk x e).2 h2)⟩
    · rintro ⟨x, e, h⟩
      exact ⟨x, e, fun h2 => h ((hB k hk x e).1 h2)⟩
  exact ⟨by rw [neg_three, neg_three]; exact h0, hk 1 (by omega), hk 2 (by omega), hk 3 (by omega)⟩

end Go.Proofs.YtllkoadcpobdaaaDoor.KX
namespace Go.Proofs.YtllkoadcpobdaaaDoor.KX

open Go Go.RowKit Go.Lib Go.Proofs Go.Proofs.YtllkoadcpobdaaaDoor.Base Go.Proofs.YtllkoadcpobdaaaDoor.L Go.Proofs.YtllkoadcpobdaaaDoor.Bt Go.Proofs.YtllkoadcpobdaaaDoor.Parse Go.Proofs.YtllkoadcpobdaaaDoor.PX

open Go.Proofs.YtllkoadcpobdaaaDoorW.PrintWords Go.Proofs.YtllkoadcpobdaaaDoorW.PrintLast Go.Proofs.YtllkoadcpobdaaaDoorW.PrintMore

theorem rdTm_get (l : List S24) (i : Nat) (h : i < l.length) : rd_T24 l (i : Int) = l[i] := by
  unfold rd_T24
  rw [Int.toNat_natCast, List.getD_eq_getElem?_getD, List.getElem?_eq_getElem h]; rfl

/-- A list of terms, none of them too long. -/
def fitsB (l : List S24) : Bool := l.all (fun x => decide (x.f5.size ≤ 2147483647))

theorem fits12_l0 (l : List S24) (hl : l.length ≤ 2147483647) : ∀ (d k i : Nat), l.length - i = d → i ≤ l.length → d < k → laws_zzFits12.l0 k l (l.length : Int) (i : Int) = some (fitsB (l.drop i)) := by
  intro d
  induction d with
  | zero =>
    intro k i hd hi hk
    obtain ⟨k, rfl⟩ : ∃ m, k = m + 1 := ⟨k - 1, by omega⟩
    simp only [laws_zzFits12.l0]
    rw [if_neg (by omega), List.drop_of_length_le (by omega)]
    rfl
  | succ d ih =>
    intro k i hd hi hk
    obtain ⟨k, rfl⟩ : ∃ m, k = m + 1 := ⟨k - 1, by omega⟩
    have hlt : i < l.length := by omega
    simp only [laws_zzFits12.l0]
    rw [if_pos (by omega), if_pos (by omega), if_pos (by omega), fits13_f, Option.bind_some, rdTm_get l i hlt]
    have e : fitsB (l.drop i) = (decide (l[i].f5.size ≤ 2147483647) && fitsB (l.drop (i + 1))) := by
      rw [List.drop_eq_getElem_cons hlt]; rfl
    rw [e]
    by_cases h : l[i].f5.size ≤ 2147483647
    · rw [decide_eq_true h, if_pos rfl, w64 (by omega) (by omega), show ((i : Int) + 1) = ((i + 1 : Nat) : Int) by omega, ih k (i + 1) (by omega) (by omega) (by omega), Bool.true_and]
    · rw [decide_eq_false h, if_neg (by decide), Bool.false_and]

theorem fits12_f (l : List S24) (k : Nat) (hk : l.length < k) : laws_zzFits12.f k l = some (decide (l.length ≤ 2147483647) && fitsB l) := by
  unfold laws_zzFits12.f
  by_cases h : l.length ≤ 2147483647
  · rw [if_neg (by omega), decide_eq_true h, Bool.true_and]
    have := fits12_l0 l h l.length k 0 (by omega) (by omega) hk
    rw [List.drop_zero] at this
    exact this
  · rw [if_pos (by omega), decide_eq_false h, Bool.false_and]

/-- What GoodTerm answers. -/
def goodR (x : S24) : Bool := (spec_GoodTerm.f (2 * x.f5.size + 14) x.f0 x.f1 x.f2 x.f3 x.f4 x.f5).getD false

theorem goodR_f (x : S24) (h : x.f5.size ≤ 2147483647) (k : Nat) (hk : 2 * x.f5.size + 14 ≤ k) : spec_GoodTerm.f k x.f0 x.f1 x.f2 x.f3 x.f4 x.f5 = some (goodR x) := by
  obtain ⟨r, hr, _⟩ := goodTerm_f (2 * x.f5.size + 14) x.f0 x.f1 x.f2 x.f3 x.f4 x.f5 h (Nat.le_refl _)
  have e : goodR x = r := by unfold goodR; rw [hr]; rfl
  rw [e]
  obtain ⟨d, rfl⟩ : ∃ d, k = 2 * x.f5.size + 14 + d := ⟨k - (2 * x.f5.size + 14), by omega⟩
  clear hk
  induction d with
  | zero => exact hr
  | succ d ih => exact spec_GoodTerm.mono _ _ _ _ _ _ _ r ih

theorem goodR_G (x : S24) (h : x.f5.size ≤ 2147483647) (hg : goodR x = true) : GoodT x.f0 x.f1 x.f2 x.f3 x.f4 (bl x.f5) := by
  obtain ⟨r, hr, hG⟩ := goodTerm_f (2 * x.f5.size + 14) x.f0 x.f1 x.f2 x.f3 x.f4 x.f5 h (Nat.le_refl _)
  have e : goodR x = r := by unfold goodR; rw [hr]; rfl
  exact hG (by rw [← e, hg])

def szs (l : List S24) : Nat := (l.map (fun x => x.f5.size)).sum

theorem szs_le {l : List S24} {x : S24} (h : x ∈ l) : x.f5.size ≤ szs l := by
  induction l with
  | nil => cases h
  | cons y t ih =>
    unfold szs at ih ⊢
    rw [List.map_cons, List.sum_cons]
    rcases List.mem_cons.1 h with rfl | h
    · omega
    · have := ih h; omega

/-- One list: what GoodTerms does with it. -/
theorem goodTs_l1 (l : List S24) (ll : List (List S24)) (n N m q : Int) (hl : l.length ≤ 2147483647) (hf : fitsB l = true) : ∀ (d k i : Nat), l.length - i = d → i ≤ l.length → 2 * szs l + 20 + d < k →
    spec_GoodTerms.l1 k N n l ll m q l (l.length : Int) (i : Int) = if (l.drop i).all goodR = true then (if (l.length : Int) = 0 then (some false) else (if (wrap64 (n + (l.length : Int))) > N then (some false) else (spec_GoodTerms.l0 (k - d - 1) N (wrap64 (n + (l.length : Int))) ll m (wrap64 (q + 1))))) else some false := by
  intro d
  induction d with
  | zero =>
    intro k i hd hi hk
    obtain ⟨k, rfl⟩ : ∃ m, k = m + 1 := ⟨k - 1, by omega⟩
    simp only [spec_GoodTerms.l1]
    rw [if_neg (by omega), List.drop_of_length_le (by omega), List.all_nil, if_pos rfl]
    rfl
  | succ d ih =>
    intro k i hd hi hk
    obtain ⟨k, rfl⟩ : ∃ m, k = m + 1 := ⟨k - 1, by omega⟩
    have hlt : i < l.length := by omega
    have hx : l[i].f5.size ≤ 2147483647 := by
      have := List.all_eq_true.1 hf _ (List.getElem_mem hlt)
      simpa using this
    have hz := szs_le (List.getElem_mem hlt)
    simp only [spec_GoodTerms.l1]
    rw [if_pos (by omega), if_pos (by omega), if_pos (by omega), rdTm_get l i hlt, goodR_f l[i] hx k (by omega), Option.bind_some, List.drop_eq_getElem_cons hlt, List.all_cons]
    cases hg : goodR l[i]
    · rfl
    · rw [if_pos rfl, w64 (by omega) (by omega), show ((i : Int) + 1) = ((i + 1 : Nat) : Int) by omega, ih k (i + 1) (by omega) (by omega) (by omega), Bool.true_and]
      rw [show k - d - 1 = k + 1 - (d + 1) - 1 by omega]

theorem scGood_l1 (l : List S24) (ll : List (List S24)) (m q : Int) (hl : l.length ≤ 2147483647) : ∀ (d k i : Nat), l.length - i = d → i ≤ l.length → d + 2 < k →
    ∃ r, laws_scGood.l1 k ll m q l (l.length : Int) (i : Int) = r ∧ (r = some false ∨ r = laws_scGood.l0 (k - d - 1) ll m (wrap64 (q + 1))) := by
  intro d
  induction d with
  | zero =>
    intro k i hd hi hk
    obtain ⟨k, rfl⟩ : ∃ m, k = m + 1 := ⟨k - 1, by omega⟩
    simp only [laws_scGood.l1]
    rw [if_neg (by omega)]
    exact ⟨_, rfl, .inr rfl⟩
  | succ d ih =>
    intro k i hd hi hk
    obtain ⟨k, rfl⟩ : ∃ m, k = m + 1 := ⟨k - 1, by omega⟩
    simp only [laws_scGood.l1]
    rw [if_pos (by omega), if_pos (by omega), if_pos (by omega)]
    split
    · exact ⟨_, rfl, .inl rfl⟩
    · rw [w64 (by omega) (by omega), show ((i : Int) + 1) = ((i + 1 : Nat) : Int) by omega]
      obtain ⟨r, h1, h2⟩ := ih k (i + 1) (by omega) (by omega) (by omega)
      rw [show k + 1 - (d + 1) - 1 = k - d - 1 by omega]
      exact ⟨r, h1, h2⟩

theorem okR_of (l : List S24) (hf : fitsB l = true) (hg : l.all goodR = true) (h0 : 0 < l.length) (h1 : l.length ≤ 1000000000) (hn : ∀ x ∈ l, 0 ≤ x.f2 ∧ 0 ≤ x.f3 ∧ 0 ≤ x.f4) : okRB l = true := by
  unfold okRB
  simp only [Bool.and_eq_true, Bool.not_eq_true', List.isEmpty_eq_false_iff, decide_eq_true_eq, List.all_eq_true]
  refine ⟨⟨List.length_pos_iff.1 h0, h1⟩, fun x hx => ?_⟩
  have hs : x.f5.size ≤ 2147483647 := by have := List.all_eq_true.1 hf x hx; simpa using this
  have G := goodR_G x hs (List.all_eq_true.1 hg x hx)
  unfold okTB
  rw [decide_eq_true_eq]
  exact ⟨G.op0, G.op8, G.g0, (hn x hx).1, (hn x hx).2.1, (hn x hx).2.2, hs⟩

end Go.Proofs.YtllkoadcpobdaaaDoor.KX
namespace Go.Proofs.YtllkoadcpobdaaaDoor.KX

open Go Go.RowKit Go.Lib Go.Sort Go.Proofs Go.Proofs.YtllkoadcpobdaaaDoor Go.Proofs.YtllkoadcpobdaaaDoor.Base Go.Proofs.YtllkoadcpobdaaaDoor.L Go.Proofs.YtllkoadcpobdaaaDoor.Bt Go.Proofs.YtllkoadcpobdaaaDoor.Parse Go.Proofs.YtllkoadcpobdaaaDoor.PX

open Go.Proofs.YtllkoadcpobdaaaDoorW.PrintWords Go.Proofs.YtllkoadcpobdaaaDoorW.PrintLast Go.Proofs.YtllkoadcpobdaaaDoorW.PrintMore

set_option linter.unusedVariables false

def fitsR (r : List S24) : Bool := decide (r.length ≤ 2147483647) && fitsB r

theorem rdL_get (l : List (List S24)) (i : Nat) (h : i < l.length) : rd_L5 l (i : Int) = l[i] := by
  show l.getD (i : Int).toNat [] = l[i]
  rw [Int.toNat_natCast, List.getD_eq_getElem?_getD, List.getElem?_eq_getElem h]; rfl

theorem fits11_l0 (l : List (List S24)) (M : Nat) (hl : l.length ≤ 2147483647) (hM : ∀ r ∈ l, r.length ≤ M) : ∀ (d k i : Nat), l.length - i = d → i ≤ l.length → M + d < k → laws_zzFits11.l0 k l (l.length : Int) (i : Int) = some ((l.drop i).all fitsR) := by
  intro d
  induction d with
  | zero =>
    intro k i hd hi hk
    obtain ⟨k, rfl⟩ : ∃ m, k = m + 1 := ⟨k - 1, by omega⟩
    simp only [laws_zzFits11.l0]
    rw [if_neg (by omega), List.drop_of_length_le (by omega)]
    rfl
  | succ d ih =>
    intro k i hd hi hk
    obtain ⟨k, rfl⟩ : ∃ m, k = m + 1 := ⟨k - 1, by omega⟩
    have hlt : i < l.length := by omega
    have hm := hM l[i] (List.getElem_mem hlt)
    simp only [laws_zzFits11.l0]
    rw [if_pos (by omega), if_pos (by omega), if_pos (by omega), rdL_get l i hlt, fits12_f l[i] k (by omega), Option.bind_some, List.drop_eq_getElem_cons hlt, List.all_cons]
    show (if fitsR l[i] = true then _ else _) = _
    cases hg : fitsR l[i]
    · rfl
    · rw [if_pos rfl, w64 (by omega) (by omega), show ((i : Int) + 1) = ((i + 1 : Nat) : Int) by omega, ih k (i + 1) (by omega) (by omega) (by omega), Bool.true_and]

theorem fits11_f (l : List (List S24)) (M : Nat) (hM : ∀ r ∈ l, r.length ≤ M) (k : Nat) (hk : M + l.length < k) : laws_zzFits11.f k l = some (decide (l.length ≤ 2147483647) && l.all fitsR) := by
  unfold laws_zzFits11.f
  by_cases h : l.length ≤ 2147483647
  · rw [if_neg (by omega), decide_eq_true h, Bool.true_and]
    have := fits11_l0 l M h hM l.length k 0 (by omega) (by omega) hk
    rw [List.drop_zero] at this
    exact this
  · rw [if_pos (by omega), decide_eq_false h, Bool.false_and]

/-- What GoodTerms says yes to. -/
def GoodL (l : List (List S24)) (n N : Int) : Prop := (∀ q ∈ l, q.all goodR = true ∧ 0 < q.length ∧ (q.length : Int) ≤ N) ∧ n + (l.length : Int) ≤ N ∧ (0 < n ∨ 0 < l.length)

theorem goodTs_l0 (l : List (List S24)) (N : Int) (M : Nat) (hN : N ≤ 1000) (hl : l.length ≤ 2147483647) (hM : ∀ r ∈ l, 2 * szs r + r.length + 30 ≤ M) (hf : l.all fitsR = true) : ∀ (d k i : Nat) (n : Int), l.length - i = d → i ≤ l.length → 0 ≤ n → n ≤ N → (M + 2) * (d + 1) ≤ k →
    ∃ r, spec_GoodTerms.l0 k N n l (l.length : Int) (i : Int) = some r ∧ (r = true → GoodL (l.drop i) n N) := by
  intro d
  induction d with
  | zero =>
    intro k i n hd hi h0 hn hk
    obtain ⟨k, rfl⟩ : ∃ m, k = m + 1 := ⟨k - 1, by omega⟩
    simp only [spec_GoodTerms.l0]
    rw [if_neg (by omega), List.drop_of_length_le (by omega)]
    refine ⟨_, rfl, fun h => ⟨fun q hq => absurd hq List.not_mem_nil, by simpa using hn, .inl (by simpa using h)⟩⟩
  | succ d ih =>
    intro k i n hd hi h0 hn hk
    rw [Nat.mul_succ] at hk
    obtain ⟨k, rfl⟩ : ∃ m, k = m + 1 := ⟨k - 1, by omega⟩
    have hlt : i < l.length := by omega
    have hm := hM l[i] (List.getElem_mem hlt)
    have hfr := List.all_eq_true.1 hf l[i] (List.getElem_mem hlt)
    unfold fitsR at hfr
    rw [Bool.and_eq_true, decide_eq_true_eq] at hfr
    simp only [spec_GoodTerms.l0]
    rw [if_pos (by omega), if_pos (by omega), if_pos (by omega), rdL_get l i hlt, List.drop_eq_getElem_cons hlt]
    have h1 := goodTs_l1 l[i] l n N (l.length : Int) (i : Int) hfr.1 hfr.2 l[i].length k 0 (by omega) (by omega) (by omega)
    rw [List.drop_zero] at h1
    have h1' : spec_GoodTerms.l1 k N n l[i] l (l.length : Int) (i : Int) l[i] (l[i].length : Int) 0 = _ := h1
    rw [h1']
    cases hg : l[i].all goodR
    · exact ⟨false, rfl, fun h => by cases h⟩
    · rw [if_pos rfl]
      by_cases hz : (l[i].length : Int) = 0
      · rw [if_pos hz]
        exact ⟨false, rfl, fun h => by cases h⟩
      · rw [if_neg hz, w64 (by omega) (by omega)]
        by_cases hgt : n + (l[i].length : Int) > N
        · rw [if_pos hgt]
          exact ⟨false, rfl, fun h => by cases h⟩
        · rw [if_neg hgt, w64 (by omega) (by omega), show ((i : Int) + 1) = ((i + 1 : Nat) : Int) by omega]
          obtain ⟨r, e, hr⟩ := ih (k - l[i].length - 1) (i + 1) (n + (l[i].length : Int)) (by omega) (by omega) (by omega) (by omega) (by omega)
          refine ⟨r, e, fun h => ?_⟩
          obtain ⟨g1, g2, g3⟩ := hr h
          refine ⟨fun q hq => ?_, ?_, .inr (by rw [List.length_cons]; omega)⟩
          · rcases List.mem_cons.1 hq with rfl | hq
            · exact ⟨hg, by omega, by omega⟩
            · exact g1 q hq
          · rw [List.length_cons]
            omega

theorem goodTs_f (l : List (List S24)) (N : Int) (M : Nat) (hN : 0 ≤ N ∧ N ≤ 1000) (hl : l.length ≤ 2147483647) (hM : ∀ r ∈ l, 2 * szs r + r.length + 30 ≤ M) (hf : l.all fitsR = true) (k : Nat) (hk : (M + 2) * (l.length + 1) ≤ k) :
    ∃ r, spec_GoodTerms.f k l N = some r ∧ (r = true → GoodL l 0 N) := by
  obtain ⟨r, e, hr⟩ := goodTs_l0 l N M hN.2 hl hM hf l.length k 0 0 (by omega) (by omega) (by omega) hN.1 hk
  rw [List.drop_zero] at hr
  exact ⟨r, e, hr⟩

theorem scGood_l0 (l : List (List S24)) (M : Nat) (hl : l.length ≤ 2147483647) (hM : ∀ r ∈ l, r.length + 30 ≤ M) (hf : l.all fitsR = true) : ∀ (d k i : Nat), l.length - i = d → i ≤ l.length → (M + 2) * (d + 1) ≤ k → ∃ r, laws_scGood.l0 k l (l.length : Int) (i : Int) = some r := by
  intro d
  induction d with
  | zero =>
    intro k i hd hi hk
    obtain ⟨k, rfl⟩ : ∃ m, k = m + 1 := ⟨k - 1, by omega⟩
    simp only [laws_scGood.l0]
    rw [if_neg (by omega)]
    exact ⟨_, rfl⟩
  | succ d ih =>
    intro k i hd hi hk
    rw [Nat.mul_succ] at hk
    obtain ⟨k, rfl⟩ : ∃ m, k = m + 1 := ⟨k - 1, by omega⟩
    have hlt : i < l.length := by omega
    have hm := hM l[i] (List.getElem_mem hlt)
    have hfr := List.all_eq_true.1 hf l[i] (List.getElem_mem hlt)
    unfold fitsR at hfr
    rw [Bool.and_eq_true, decide_eq_true_eq] at hfr
    simp only [laws_scGood.l0]
    rw [if_pos (by omega), if_pos (by omega), if_pos (by omega), rdL_get l i hlt]
    obtain ⟨r, h1, h2⟩ := scGood_l1 l[i] l (l.length : Int) (i : Int) hfr.1 l[i].length k 0 (by omega) (by omega) (by omega)
    have h1' : laws_scGood.l1 k l (l.length : Int) (i : Int) l[i] (l[i].length : Int) 0 = r := h1
    rw [h1']
    rcases h2 with rfl | rfl
    · exact ⟨false, rfl⟩
    · rw [w64 (by omega) (by omega), show ((i : Int) + 1) = ((i + 1 : Nat) : Int) by omega]
      exact ih (k - l[i].length - 1) (i + 1) (by omega) (by omega) (by omega)

theorem scGood_f (l : List (List S24)) (M : Nat) (hl : l.length ≤ 2147483647) (hM : ∀ r ∈ l, 2 * szs r + r.length + 30 ≤ M) (hf : l.all fitsR = true) (k : Nat) (hk : (M + 2) * (l.length + 1) ≤ k) : ∃ r, laws_scGood.f k l = some r := by
  unfold laws_scGood.f
  obtain ⟨r, e, _⟩ := goodTs_f l 24 M ⟨by decide, by decide⟩ hl hM hf k hk
  rw [e, Option.bind_some]
  cases r
  · exact ⟨false, rfl⟩
  · rw [if_pos rfl]
    exact scGood_l0 l M hl (fun q hq => by have := hM q hq; omega) hf l.length k 0 (by omega) (by omega) hk

theorem siGood_two (c d : List (List S24)) (M : Nat) (hc : c.length ≤ 2147483647) (hd : d.length ≤ 2147483647) (hMc : ∀ r ∈ c, 2 * szs r + r.length + 30 ≤ M) (hMd : ∀ r ∈ d, 2 * szs r + r.length + 30 ≤ M) (hfc : c.all fitsR = true) (hfd : d.all fitsR = true) (k : Nat) (hk : (M + 2) * (c.length + d.length + 1) ≤ k) :
    ∃ r, laws_siGood.f (k + 3) [c, d] = some r ∧ (r = true → GoodL c 0 10 ∧ GoodL d 0 10) := by
  have kc : (M + 2) * (c.length + 1) ≤ k := Nat.le_trans (Nat.mul_le_mul_left _ (by omega)) hk
  have kd : (M + 2) * (d.length + 1) ≤ k := Nat.le_trans (Nat.mul_le_mul_left _ (by omega)) hk
  obtain ⟨r1, e1, h1⟩ := goodTs_f c 10 M ⟨by decide, by decide⟩ hc hMc hfc (k + 2) (by omega)
  obtain ⟨r2, e2, h2⟩ := goodTs_f d 10 M ⟨by decide, by decide⟩ hd hMd hfd (k + 1) (by omega)
  obtain ⟨s1, f1⟩ := scGood_f c M hc hMc hfc (k + 2) (by omega)
  obtain ⟨s2, f2⟩ := scGood_f d M hd hMd hfd (k + 1) (by omega)
  unfold laws_siGood.f
  simp only [laws_siGood.l0]
  have g0 : rd_L6 [c, d] 0 = c := rfl
  have w1 : wrap64 (0 + 1) = 1 := w64 (by omega) (by omega)
  have w2 : wrap64 (1 + 1) = 2 := w64 (by omega) (by omega)
  have g1 : rd_L6 [c, d] 1 = d := rfl
  rw [if_pos (by simp), if_pos (by decide), if_pos (by simp), g0, e1, Option.bind_some]
  cases r1
  · exact ⟨false, rfl, fun h => by cases h⟩
  · rw [if_pos rfl, f1, Option.bind_some]
    cases s1
    · exact ⟨false, rfl, fun h => by cases h⟩
    · rw [if_pos rfl, w1, if_pos (by simp), if_pos (by decide), if_pos (by simp), g1, e2, Option.bind_some]
      cases r2
      · exact ⟨false, rfl, fun h => by cases h⟩
      · rw [if_pos rfl, f2, Option.bind_some]
        cases s2
        · exact ⟨false, rfl, fun h => by cases h⟩
        · rw [if_pos rfl, w2, if_neg (by simp)]
          exact ⟨true, rfl, fun _ => ⟨h1 rfl, h2 rfl⟩⟩

end Go.Proofs.YtllkoadcpobdaaaDoor.KX
namespace Go.Proofs.YtllkoadcpobdaaaDoor.KX

open Go Go.RowKit Go.Lib Go.Sort Go.Proofs Go.Proofs.YtllkoadcpobdaaaDoor Go.Proofs.YtllkoadcpobdaaaDoor.Base Go.Proofs.YtllkoadcpobdaaaDoor.L Go.Proofs.YtllkoadcpobdaaaDoor.Bt Go.Proofs.YtllkoadcpobdaaaDoor.Parse Go.Proofs.YtllkoadcpobdaaaDoor.PX

open Go.Proofs.YtllkoadcpobdaaaDoorW.PrintWords Go.Proofs.YtllkoadcpobdaaaDoorW.PrintLast Go.Proofs.YtllkoadcpobdaaaDoorW.PrintMore

attribute [local go_sem] setCell_drewN alloc_drewN

set_option linter.unusedVariables false

set_option linter.unusedSimpArgs false

theorem bnd (l : List (List S24)) : ∃ M, ∀ r ∈ l, 2 * szs r + r.length + 30 ≤ M := by
  induction l with
  | nil => exact ⟨0, fun r h => absurd h List.not_mem_nil⟩
  | cons q t ih =>
    obtain ⟨M, hM⟩ := ih
    refine ⟨M + (2 * szs q + q.length + 30), fun r hr => ?_⟩
    rcases List.mem_cons.1 hr with rfl | hr
    · omega
    · have := hM r hr; omega

theorem C_pair {w : World} {b : Nat} {A B : Option Addr} {ca cb : Nat} {c d : List (List S24)} (hc : Kd.C (Kd.slice 24 k24) w A c.length c) (hd : Kd.C (Kd.slice 24 k24) w B d.length d) (hca : c.length ≤ ca) (hcb : d.length ≤ cb) (h : At w b [.slice A c.length ca, .slice B d.length cb]) :
    Kd.C (Kd.slice 42 (Kd.slice 24 k24)) w (some ⟨b, 0, none⟩) 2 [c, d] := by
  refine ⟨rfl, by decide, fun _ => ⟨_, rfl, fun j p hj => ?_⟩⟩
  have e : ∀ m i, (⟨b, 0, none⟩ : Addr).add (m * (Kd.slice 42 (Kd.slice 24 k24)).sz + i) = ⟨b, m + i, none⟩ := by
    intro m i
    show (⟨b, 0, none⟩ : Addr).add (m * 1 + i) = _
    unfold Addr.add
    split
    · rename_i h; rw [show m + i = 0 by omega]
    · rw [Nat.zero_add, Nat.mul_one]
  match j, hj with
  | 0, hj =>
    cases hj
    refine ⟨[.slice A c.length ca], rfl, ⟨A, ca, rfl, hca, hc⟩, fun i u hi => ?_⟩
    rw [e]
    match i, hi with
    | 0, hi => cases hi; exact h.cell 0 _ rfl
    | n + 1, hi => simp at hi
  | 1, hj =>
    cases hj
    refine ⟨[.slice B d.length cb], rfl, ⟨B, cb, rfl, hcb, hd⟩, fun i u hi => ?_⟩
    rw [e]
    match i, hi with
    | 0, hi => cases hi; exact h.cell 1 _ rfl
    | n + 1, hi => simp at hi
  | n + 2, hj => simp at hj

theorem okL_of {l : List (List S24)} (hf : l.all fitsR = true) (hg : GoodL l 0 10) (hn : ∀ r ∈ l, ∀ x ∈ r, OkP x) : okLB l = true := by
  obtain ⟨g1, g2, g3⟩ := hg
  unfold okLB
  simp only [Bool.and_eq_true, Bool.not_eq_true', List.isEmpty_eq_false_iff, decide_eq_true_eq, List.all_eq_true]
  refine ⟨⟨fun e => ?_, by omega⟩, fun r hr => ?_⟩
  · rw [e] at g3
    rcases g3 with h | h
    · exact absurd h (by decide)
    · exact absurd h (by decide)
  · have hfr := List.all_eq_true.1 hf r hr
    unfold fitsR at hfr
    rw [Bool.and_eq_true, decide_eq_true_eq] at hfr
    exact okR_of r hfr.2 (g1 r hr).1 (g1 r hr).2.1 (by have := (g1 r hr).2.2; omega) (fun x hx => ⟨(hn r hr x hx).a.1, (hn r hr x hx).b.1, (hn r hr x hx).c.1⟩)

/-- What every version satisfies, prereleases let in. -/
theorem all_f (x y z : Nat) : impl_TermsHold.f [[(⟨4, 3, 0, 0, 0, ⟨#[48]⟩⟩ : S24)]] x y z ⟨#[]⟩ ⟨#[]⟩ false = some true := by
  have o : okLB [[(⟨4, 3, 0, 0, 0, ⟨#[48]⟩⟩ : S24)]] = true := okL_one _ (okTB_mk 4 3 0 0 0 ⟨#[48]⟩ (by decide) (by decide) (by decide))
  unfold impl_TermsHold.f
  rw [if_pos ⟨o, by unfold okV; exact ⟨by omega, by omega, by omega, by decide⟩⟩, holds_one]
  have e : (false || !(bl (⟨4, 3, 0, 0, 0, ⟨#[48]⟩⟩ : S24).f5 == [])) = true := rfl
  rw [e]
  show some (termI 4 _ _ _ _ _ true) = _
  unfold termI
  rw [if_neg (by decide), if_neg (by decide), if_neg (by decide), if_neg (by decide), if_pos rfl, least_l _ _ 3 _ _ _ true rfl]
  unfold compB
  rw [if_neg (by decide), if_neg (by decide), if_neg (by decide), if_neg (by decide), if_pos rfl, decide_eq_true]
  rw [ge_zero _ rfl _ rfl]
  show 0 ≤ numC 3 x y z 0 0 0
  unfold numC segC
  repeat' split
  all_goals omega

theorem all_one (A1 : Option Addr) (c1 x y z : Nat) (W : World) (h1 : Kd.C (Kd.slice 24 k24) W A1 1 [[(⟨4, 3, 0, 0, 0, ⟨#[48]⟩⟩ : S24)]]) (h2 : 1 ≤ c1) (h3 : Std W) :
    Calls Tryd.prog 37 #[.slice A1 1 c1, .agg #[.int .u64 (x : Int), .int .u64 (y : Int), .int .u64 (z : Int), .string ⟨#[]⟩, .string ⟨#[]⟩], .bool false] W fun e w' => e = .returned (.bool true) ∧ Below W.heap.size W w' :=
  impl_TermsHold.calls A1 c1 [[(⟨4, 3, 0, 0, 0, ⟨#[48]⟩⟩ : S24)]] x y z ⟨#[]⟩ ⟨#[]⟩ false true W h1 h2 h3 (all_f x y z)

theorem siAll_c (W : World) : Calls Tryd.prog 45 #[] W fun e w' => ∃ A1 c1, e = .returned (.slice A1 1 c1) ∧ 1 ≤ c1 ∧ Kd.C (Kd.slice 24 k24) w' A1 1 [[(⟨4, 3, 0, 0, 0, ⟨#[48]⟩⟩ : S24)]] ∧ Below W.heap.size W w' := by
  refine (laws_siAll.calls _ W rfl).mono ?_
  rintro e w' ⟨v, rfl, hN, hb⟩
  obtain ⟨A1, c1, e1, h1, h2⟩ := Kd.N_reads hN
  exact ⟨A1, c1, by rw [e1]; rfl, h1, h2, hb⟩

theorem five_of {w : World} {b : Nat} {x0 x1 x2 x3 x4 : Value} (h : Box w b [x0, x1, x2, x3, x4]) : w.cell? ⟨b, 0, none⟩ = some x0 ∧ w.cell? ⟨b, 1, none⟩ = some x1 ∧ w.cell? ⟨b, 2, none⟩ = some x2 ∧ w.cell? ⟨b, 3, none⟩ = some x3 ∧ w.cell? ⟨b, 4, none⟩ = some x4 := ⟨h.cell 0 _ rfl, h.cell 1 _ rfl, h.cell 2 _ rfl, h.cell 3 _ rfl, h.cell 4 _ rfl⟩

theorem off_ {b : Bool} {p q : Prop} (hb : b = false) (h : q) : if b = true then p else q := by rw [hb]; exact h

def TruA (w : World) (e : Ending) (w' : World) : Prop := e = .returned (.bool true) ∧ Below w.heap.size w w'

set_option maxHeartbeats 16000000 in
set_option maxRecDepth 100000 in
theorem apart_walk (c d : List (List S24)) (A B : Option Addr) (ca cb : Nat) (x y z : Nat) (q r : ByteArray) (hca : c.length ≤ ca) (hcb : d.length ≤ cb) (hn : ∀ p ∈ c ++ d, ∀ t ∈ p, OkP t)
  (hp : c.all fitsR = true → d.all fitsR = true → GoodL c 0 10 → GoodL d 0 10 → eachB c d = true → (atV c (relS (x, y, z)) && atV d (relS (x, y, z))) = false) (w : World) (hC : Kd.C (Kd.slice 24 k24) w A c.length c) (hD : Kd.C (Kd.slice 24 k24) w B d.length d) (hS : Std w) :
  Calls Tryd.prog 11 #[.slice A c.length ca, .slice B d.length cb, .agg #[.int .u64 (x : Int), .int .u64 (y : Int), .int .u64 (z : Int), .string q, .string r]] w (TruA w) := by
 obtain ⟨M1, hM1⟩ := bnd c
 obtain ⟨M2, hM2⟩ := bnd d
 have HC := Aside0.mk hC; have HD := Aside0.mk hD; have HS := Aside0.mk hS; have HLa := Lib.hid hca; have HLb := Lib.hid hcb; have HNn := Lib.hid hn; have HPp := Lib.hid hp
 have C1 := Lib.hid (fun W h1 h2 => laws_zzFits11.calls (M1 + c.length + 1) A ca c _ W h1 h2 (fits11_f c M1 (fun r hr => by have := hM1 r hr; omega) _ (by omega)))
 have C2 := Lib.hid (fun W h1 h2 => laws_zzFits11.calls (M2 + d.length + 1) B cb d _ W h1 h2 (fits11_f d M2 (fun r hr => by have := hM2 r hr; omega) _ (by omega)))
 have C3 := Lib.hid (fun W => fits14 x y z q r W)
 have HM := Lib.hid (And.intro hM1 hM2)
 clear hC hD hS hca hcb hn hp hM1 hM2
 cases f1 : (decide (c.length ≤ 2147483647) && c.all fitsR) with
 | false =>
  rw [f1] at C1
  clear C2 C3 HNn f1 HPp HM
  go_enter Tryd.func11, Tryd.ntmps11
  go_wp2_with fail
  generalize hW0 : World.alloc w _ = w0
  have t0 : Box w0 w.heap.size [.int .u64 (x : Int), .int .u64 (y : Int), .int .u64 (z : Int), .string q, .string r] := by
   rw [← hW0]; exact Box.new' _ _ _ _ rfl
  have b0 : Below w.heap.size w w0 := by rw [← hW0]; go_grown
  have HT := Aside0.mk t0; have HB := Aside0.mk b0
  clear t0 b0 hW0
  refine (C1.out _ (Kd.C_below HC.out HB.out) HLa.out).mono ?_
  rintro e w1 ⟨rfl, hb⟩
  have HT1 := Aside0.mk (HT.out.below hb); have HB1 := Aside0.mk (HB.out.trans (hb.mono HB.out.size))
  clear hb HT HB
  go_wp2_with fail
  go_ret
  exact ⟨rfl, HB1.out⟩
 | true =>
  rw [f1] at C1
  rw [Bool.and_eq_true, decide_eq_true_eq] at f1
  have HF1 := Lib.hid f1
  clear f1
  cases f2 : (decide (d.length ≤ 2147483647) && d.all fitsR) with
  | false =>
   rw [f2] at C2
   clear C3 HNn f2 HPp HM HF1
   go_enter Tryd.func11, Tryd.ntmps11
   go_wp2_with fail
   generalize hW0 : World.alloc w _ = w0
   have t0 : Box w0 w.heap.size [.int .u64 (x : Int), .int .u64 (y : Int), .int .u64 (z : Int), .string q, .string r] := by
    rw [← hW0]; exact Box.new' _ _ _ _ rfl
   have b0 : Below w.heap.size w w0 := by rw [← hW0]; go_grown
   have HT := Aside0.mk t0; have HB := Aside0.mk b0
   clear t0 b0 hW0
   refine (C1.out _ (Kd.C_below HC.out HB.out) HLa.out).mono ?_
   rintro e w1 ⟨rfl, hb⟩
   have HT1 := Aside0.mk (HT.out.below hb); have HB1 := Aside0.mk (HB.out.trans (hb.mono HB.out.size))
   clear hb HT HB
   go_wp2_with fail
   refine (C2.out _ (Kd.C_below HD.out HB1.out) HLb.out).mono ?_
   rintro e w2 ⟨rfl, hb⟩
   have HB2 := Aside0.mk (HB1.out.trans (hb.mono HB1.out.size))
   clear hb HB1 HT1
   go_wp2_with fail
   go_ret
   exact ⟨rfl, HB2.out⟩
  | true =>
   rw [f2] at C2
   rw [Bool.and_eq_true, decide_eq_true_eq] at f2
   have HF2 := Lib.hid f2
   clear f2
   cases f3 : (decide (q.size ≤ 2147483647) && decide (r.size ≤ 2147483647)) with
   | false =>
    rw [f3] at C3
    clear HNn f3 HPp HM HF1 HF2
    go_enter Tryd.func11, Tryd.ntmps11
    go_wp2_with fail
    generalize hW0 : World.alloc w _ = w0
    have t0 : Box w0 w.heap.size [.int .u64 (x : Int), .int .u64 (y : Int), .int .u64 (z : Int), .string q, .string r] := by
     rw [← hW0]; exact Box.new' _ _ _ _ rfl
    have b0 : Below w.heap.size w w0 := by rw [← hW0]; go_grown
    have HT := Aside0.mk t0; have HB := Aside0.mk b0
    clear t0 b0 hW0
    refine (C1.out _ (Kd.C_below HC.out HB.out) HLa.out).mono ?_
    rintro e w1 ⟨rfl, hb⟩
    have HT1 := Aside0.mk (HT.out.below hb); have HB1 := Aside0.mk (HB.out.trans (hb.mono HB.out.size))
    clear hb HT HB
    go_wp2_with fail
    refine (C2.out _ (Kd.C_below HD.out HB1.out) HLb.out).mono ?_
    rintro e w2 ⟨rfl, hb⟩
    have HT2 := Aside0.mk (HT1.out.below hb); have HB2 := Aside0.mk (HB1.out.trans (hb.mono HB1.out.size))
    clear hb HB1 HT1
    have v0 := HT2.out.cell 0 _ rfl; have v1 := HT2.out.cell 1 _ rfl; have v2 := HT2.out.cell 2 _ rfl; have v3 := HT2.out.cell 3 _ rfl; have v4 := HT2.out.cell 4 _ rfl
    go_wp2_with fail
    refine (C3.out _).mono ?_
    rintro e w3 ⟨rfl, hb⟩
    have HB3 := Aside0.mk (HB2.out.trans (hb.mono HB2.out.size))
    clear hb HB2 HT2 v0 v1 v2 v3 v4
    go_wp2_with fail
    go_ret
    exact ⟨rfl, HB3.out⟩
   | true =>
    rw [f3] at C3
    clear f3
    obtain ⟨t, ht, hg⟩ := siGood_two c d (M1 + M2) HF1.out.1 HF2.out.1 (fun r hr => by have := HM.out.1 r hr; omega) (fun r hr => by have := HM.out.2 r hr; omega) HF1.out.2 HF2.out.2 _ (Nat.le_refl _)
    have HG := Lib.hid hg
    have C4 := Lib.hid (fun W b h1 => laws_siGood.calls _ (some ⟨b, 0, none⟩) 2 [c, d] t W h1 (Nat.le_refl 2) ht)
    have C5 := Lib.hid (fun W => bare_c x y z q r W)
    clear hg ht HM
    go_enter Tryd.func11, Tryd.ntmps11
    go_wp2_with fail
    generalize hW0 : World.alloc w _ = w0
    have t0 : Box w0 w.heap.size [.int .u64 (x : Int), .int .u64 (y : Int), .int .u64 (z : Int), .string q, .string r] := by
     rw [← hW0]; exact Box.new' _ _ _ _ rfl
    have b0 : Below w.heap.size w w0 := by rw [← hW0]; go_grown
    have HT := Aside0.mk t0; have HB := Aside0.mk b0
    clear t0 b0 hW0
    refine (C1.out _ (Kd.C_below HC.out HB.out) HLa.out).mono ?_
    rintro e w1 ⟨rfl, hb⟩
    have HT1 := Aside0.mk (HT.out.below hb); have HB1 := Aside0.mk (HB.out.trans (hb.mono HB.out.size))
    clear hb HT HB
    go_wp2_with fail
    refine (C2.out _ (Kd.C_below HD.out HB1.out) HLb.out).mono ?_
    rintro e w2 ⟨rfl, hb⟩
    have HT2 := Aside0.mk (HT1.out.below hb); have HB2 := Aside0.mk (HB1.out.trans (hb.mono HB1.out.size))
    clear hb HB1 HT1
    have v0 := HT2.out.cell 0 _ rfl; have v1 := HT2.out.cell 1 _ rfl; have v2 := HT2.out.cell 2 _ rfl; have v3 := HT2.out.cell 3 _ rfl; have v4 := HT2.out.cell 4 _ rfl
    go_wp2_with fail
    refine (C3.out _).mono ?_
    rintro e w3 ⟨rfl, hb⟩
    have HT3 := Aside0.mk (HT2.out.below hb); have HB3 := Aside0.mk (HB2.out.trans (hb.mono HB2.out.size))
    clear hb HB2 HT2 v0 v1 v2 v3 v4
    have v0 := HT3.out.cell 0 _ rfl; have v1 := HT3.out.cell 1 _ rfl; have v2 := HT3.out.cell 2 _ rfl; have v3 := HT3.out.cell 3 _ rfl; have v4 := HT3.out.cell 4 _ rfl
    go_wp2_with fail
    refine (C5.out _).mono ?_
    rintro e w4 ⟨rfl, hb⟩
    have HT4 := Aside0.mk (HT3.out.below hb); have HB4 := Aside0.mk (HB3.out.trans (hb.mono HB3.out.size))
    clear hb HB3 HT3 v0 v1 v2 v3 v4
    have v0 := HT4.out.cell 0 _ rfl; have v1 := HT4.out.cell 1 _ rfl; have v2 := HT4.out.cell 2 _ rfl; have v3 := HT4.out.cell 3 _ rfl; have v4 := HT4.out.cell 4 _ rfl
    have fz := HT4.out.free; have hz := HT4.out.lt
    go_wp2_with fail
    generalize hW5 : World.setCell _ _ _ = w5
    have T5 : Box w5 w.heap.size [.int .u64 (x : Int), .int .u64 (y : Int), .int .u64 (z : Int), .string ⟨#[]⟩, .string ⟨#[]⟩] := by
     rw [← hW5]
     exact ((((HT4.out.set 0 (by simp) _).set 1 (by simp) _).set 2 (by simp) _).set 3 (by simp) _).set 4 (by simp) _
    have B5 : Below w.heap.size w w5 := by
     have hb := HB4.out
     have := hb.size
     rw [← hW5]
     exact ((((hb.setCell (by simp) _).setCell (by simp) _).setCell (by simp) _).setCell (by simp) _).setCell (by simp) _
    have z5 : w4.heap.size = w5.heap.size := by rw [← hW5]; simp
    clear hW5 v0 v1 v2 v3 v4 fz hz HT4 HB4
    generalize hW6 : World.alloc w5 _ = w6
    have b6 : Below w5.heap.size w5 w6 := (by rw [← hW6]; exact below_alloc (Below.refl _ _) _)
    have p6 : At w6 w4.heap.size [.slice A c.length ca, .slice B d.length cb] := by
     rw [← hW6]; exact At.new _ _ _ _ z5
    have HT6 := Aside0.mk (T5.below b6); have HB6 := Aside0.mk (B5.trans (b6.mono B5.size))
    clear hW6 b6 T5 B5 z5
    refine (C4.out w6 w4.heap.size (C_pair (Kd.C_below HC.out HB6.out) (Kd.C_below HD.out HB6.out) HLa.out HLb.out p6)).mono ?_
    rintro e w7 ⟨rfl, hb⟩
    have HT7 := Aside0.mk (HT6.out.below hb); have HB7 := Aside0.mk (HB6.out.trans (hb.mono HB6.out.size))
    clear hb HB6 HT6 p6
    cases t with
    | false =>
     go_wp2_with fail
     go_ret
     exact ⟨rfl, HB7.out⟩
    | true =>
     obtain ⟨gc, gd⟩ := HG.out rfl
     have hnc : ∀ p ∈ c, ∀ t ∈ p, OkP t := fun p hp => HNn.out p (List.mem_append_left _ hp)
     have hnd : ∀ p ∈ d, ∀ t ∈ p, OkP t := fun p hp => HNn.out p (List.mem_append_right _ hp)
     have oc := okL_of HF1.out.2 gc hnc
     have od := okL_of HF2.out.2 gd hnd
     have lc : c.length ≤ 100 := by have := gc.2.1; omega
     have ld : d.length ≤ 100 := by have := gd.2.1; omega
     have rr : ∀ p ∈ c ++ d, p.length ≤ 1000 ∧ ∀ t ∈ p, OkP t := fun p hp => ⟨by
      rcases List.mem_append.1 hp with h | h
      ·
       have := (gc.1 p h).2.2; omega
      ·
       have := (gd.1 p h).2.2; omega, HNn.out p hp⟩
     have C6 := Lib.hid (fun W h1 h2 h3 => each_c c d A B ca cb HLa.out HLb.out lc ld rr oc od W h1 h2 h3)
     have HV := Lib.hid (HPp.out HF1.out.2 HF2.out.2 gc gd)
     have tc : impl_TermsHold.f c x y z ⟨#[]⟩ ⟨#[]⟩ false = some (atV c (relS (x, y, z))) := by
      unfold impl_TermsHold.f; rw [if_pos ⟨oc, by unfold okV; exact ⟨by omega, by omega, by omega, by decide⟩⟩]; rfl
     have td : impl_TermsHold.f d x y z ⟨#[]⟩ ⟨#[]⟩ false = some (atV d (relS (x, y, z))) := by
      unfold impl_TermsHold.f; rw [if_pos ⟨od, by unfold okV; exact ⟨by omega, by omega, by omega, by decide⟩⟩]; rfl
     have T1 := Lib.hid (fun W h1 h2 => impl_TermsHold.calls A ca c x y z ⟨#[]⟩ ⟨#[]⟩ false _ W h1 HLa.out h2 tc)
     have T2 := Lib.hid (fun W h1 h2 => impl_TermsHold.calls B cb d x y z ⟨#[]⟩ ⟨#[]⟩ false _ W h1 HLb.out h2 td)
     have T3 := Lib.hid (fun A1 c1 W h1 h2 h3 => all_one A1 c1 x y z W h1 h2 h3)
     have TA := Lib.hid (fun W => siAll_c W)
     clear tc td oc od lc ld rr gc gd hnc hnd HG C1 C2 C3 C4 C5 HPp HNn HF1 HF2
     generalize atV c (relS (x, y, z)) = u at *
     generalize atV d (relS (x, y, z)) = v at *
     go_wp2_with fail
     refine (C6.out _ (Kd.C_below HC.out HB7.out) (Kd.C_below HD.out HB7.out) (HS.out.below HB7.out)).mono ?_
     rintro e w8 ⟨rfl, hb⟩
     have HT8 := Aside0.mk (HT7.out.below hb); have HB8 := Aside0.mk (HB7.out.trans (hb.mono HB7.out.size))
     clear hb HB7 HT7 C6
     cases hE : eachB c d with
     | false =>
      clear HV T1 T2
      go_upto_region 7 with fail
      have HBS := Aside0.mk (Below.refl w8.heap.size w8)
      go_region_held3 (fun W' => W'.cell? ⟨w.heap.size, 0, none⟩ = some (.int .u64 (x : Int)) ∧ W'.cell? ⟨w.heap.size, 1, none⟩ = some (.int .u64 (y : Int)) ∧ W'.cell? ⟨w.heap.size, 2, none⟩ = some (.int .u64 (z : Int)) ∧ W'.cell? ⟨w.heap.size, 3, none⟩ = some (.string ⟨#[]⟩) ∧ W'.cell? ⟨w.heap.size, 4, none⟩ = some (.string ⟨#[]⟩))
       (exact five_of (HT8.out.below (by repeat (first | (with_reducible first | exact HBS.out | apply below_alloc | apply pw_below_drewN | apply below_drew1) | exact HBS.out)))) (first
       | (go_at_call 45; (with_reducible refine (TA.out _).mono ?_); rintro e w9 ⟨A9, c9, rfl, hc9, hC9, hb⟩; have HC9 := Aside0.mk hC9; have HK9 := Lib.hid hc9; have HBN := Aside0.mk (Below.refl w9.heap.size w9); clear hC9 hc9; have n0 := Aside0.mk (below_step (by repeat (first | (with_reducible first | exact HBS.out | apply below_alloc | apply pw_below_drewN | apply below_drew1) | exact HBS.out)) hb); have n1 := Aside0.mk (below_step (by repeat (first | (with_reducible first | exact HB8.out | apply below_alloc | apply pw_below_drewN | apply below_drew1) | exact HB8.out)) hb); clear hb HBS HB8; have HBS := n0; have HB8 := n1; clear n0 n1)
       | (go_at_call 37; (with_reducible refine (T3.out _ _ _ ?c1 ?c2 ?c3).mono ?_); (case c1 => exact Kd.C_below HC9.out (by repeat (first | (with_reducible first | exact HBN.out | apply below_alloc | apply pw_below_drewN | apply below_drew1) | exact HBN.out))); (case c2 => exact HK9.out); (case c3 => exact HS.out.below (by repeat (first | (with_reducible first | exact HB8.out | apply below_alloc | apply pw_below_drewN | apply below_drew1) | exact HB8.out))); rintro e w10 ⟨rfl, hb⟩; have n0 := Aside0.mk (below_step (by repeat (first | (with_reducible first | exact HBS.out | apply below_alloc | apply pw_below_drewN | apply below_drew1) | exact HBS.out)) hb); have n1 := Aside0.mk (below_step (by repeat (first | (with_reducible first | exact HB8.out | apply below_alloc | apply pw_below_drewN | apply below_drew1) | exact HB8.out)) hb); clear hb HBS HB8; have HBS := n0; have HB8 := n1; clear n0 n1))
      all_goals (try go_wp2_with fail)
      all_goals (go_ret; exact ⟨rfl, HB8.out⟩)
     | true =>
      have HV := Lib.hid (HV.out hE)
      go_upto_region 8 with fail
      have HBS := Aside0.mk (Below.refl w8.heap.size w8)
      cases u with
      | false =>
       refine start_ (n := 16) (S := (fun w' => w'.cell? ⟨w.heap.size, 0, none⟩ = some (.int .u64 (x : Int)) ∧ w'.cell? ⟨w.heap.size, 1, none⟩ = some (.int .u64 (y : Int)) ∧ w'.cell? ⟨w.heap.size, 2, none⟩ = some (.int .u64 (z : Int)) ∧ w'.cell? ⟨w.heap.size, 3, none⟩ = some (.string ⟨#[]⟩) ∧ w'.cell? ⟨w.heap.size, 4, none⟩ = some (.string ⟨#[]⟩))) (ds := []) #[false, false, false, false, false, false, false, false, false, false, false, false, false, false, false, false] (by kernel_rfl) rfl rfl (five_of (HT8.out.below (Below.refl _ _).drew)) (fun hHeld => ?_)
       have HTd := Aside0.mk (HT8.out.below (Below.refl _ _).drew); have HBd := Aside0.mk (HB8.out.trans ((Below.refl w8.heap.size w8).drew.mono HB8.out.size))
       generalize w8.drew = wd at *
       refine take_ (i := 0) (N := some 34) (v := ?_) (a' := ?_) #[true, false, false, false, false, false, false, false, false, false, false, false, false, false, false, false] rfl rfl (by kernel_rfl) (fun _ _ _ h => h) (Or.inl ⟨by rfl, ?_⟩) hHeld ?_ ?_
       rotate_left
       ·
        rintro w' ⟨s0, s1, s2, s3, s4⟩
        go_simp
        with_reducible rfl
       rotate_left
       ·
        simp only [Act.put, List.setIfInBounds_toArray, List.set_cons_zero, List.set_cons_succ]
        rfl
       refine take_ (i := 1) (N := some 35) (v := ?_) (a' := ?_) #[true, true, false, false, false, false, false, false, false, false, false, false, false, false, false, false] rfl rfl (by kernel_rfl) (fun _ _ _ h => h) (Or.inl ⟨by rfl, ?_⟩) hHeld ?_ ?_
       rotate_left
       ·
        rintro w' ⟨s0, s1, s2, s3, s4⟩
        go_simp
        with_reducible rfl
       rotate_left
       ·
        simp only [Act.put, List.setIfInBounds_toArray, List.set_cons_zero, List.set_cons_succ]
        rfl
       refine one_ (i := 2) (N := some 36) #[true, true, true, false, false, false, false, false, false, false, false, false, false, false, false, false] rfl rfl (by kernel_rfl) (by decide) (fun K hK => ?_)
       refine goes_ Tryd.func37 (by kernel_rfl) rfl #[.slice A c.length ca, .agg #[.int .u64 (x : Int), .int .u64 (y : Int), .int .u64 (z : Int), .string ⟨#[]⟩, .string ⟨#[]⟩], .bool false] (by rfl) rfl rfl (by (try simp only [List.map_toArray, List.map_cons, List.map_nil]); first | done | rfl) ?_
       refine (T1.out _ (Kd.C_below HC.out HBd.out) (HS.out.below HBd.out)).mono ?_
       rintro e w10 ⟨rfl, hb⟩
       refine ⟨_, rfl, ?_⟩
       have HTe := Aside0.mk (HTd.out.below hb); have HBe := Aside0.mk (HBd.out.trans (hb.mono HBd.out.size))
       clear hb
       refine hK.out _ _ (five_of HTe.out) (fun hHeld => ?_)
       clear hK K
       refine norm_ (a' := ?_) ?_ ?_
       rotate_left
       ·
        show Act.put _ (some 36) _ = _
        simp only [Act.put, List.setIfInBounds_toArray, List.set_cons_zero, List.set_cons_succ]
        rfl
       refine pure_ (i := 3) (N := some 37) (v := ?_) (a' := ?_) #[true, true, true, true, false, false, false, false, false, false, false, false, false, false, false, false] rfl rfl (by kernel_rfl) (fun _ _ _ h => h) (Or.inl ⟨by rfl, ?_⟩) ?_ ?_
       rotate_left
       ·
        intro w'
        go_simp
        with_reducible rfl
       rotate_left
       ·
        simp only [Act.put, List.setIfInBounds_toArray, List.set_cons_zero, List.set_cons_succ]
        rfl
       refine pure_ (i := 4) (N := some 38) (v := ?_) (a' := ?_) #[true, true, true, true, true, false, false, false, false, false, false, false, false, false, false, false] rfl rfl (by kernel_rfl) (fun _ _ _ h => h) (Or.inl ⟨by rfl, ?_⟩) ?_ ?_
       rotate_left
       ·
        intro w'
        go_simp
        with_reducible rfl
       rotate_left
       ·
        simp only [Act.put, List.setIfInBounds_toArray, List.set_cons_zero, List.set_cons_succ]
        rfl
       refine pure_ (i := 5) (N := some 39) (v := undef) (a' := ?_) #[true, true, true, true, true, true, false, false, false, false, false, false, false, false, false, false] rfl rfl (by kernel_rfl) (fun _ _ _ h => h) (Or.inr ⟨by rfl, rfl⟩) ?_ ?_
       rotate_left
       ·
        simp only [Act.put, List.setIfInBounds_toArray, List.set_cons_zero, List.set_cons_succ]
        rfl
       refine pure_ (i := 6) (N := some 40) (v := undef) (a' := ?_) #[true, true, true, true, true, true, true, false, false, false, false, false, false, false, false, false] rfl rfl (by kernel_rfl) (fun _ _ _ h => h) (Or.inr ⟨by rfl, rfl⟩) ?_ ?_
       rotate_left
       ·
        simp only [Act.put, List.setIfInBounds_toArray, List.set_cons_zero, List.set_cons_succ]
        rfl
       refine one_ (i := 7) (N := some 41) #[true, true, true, true, true, true, true, true, false, false, false, false, false, false, false, false] rfl rfl (by kernel_rfl) (by decide) (fun K hK => ?_)
       refine off_ (by rfl) ?_
       refine hK.out _ _ hHeld (fun hHeld => ?_)
       clear hK K
       refine norm_ (a' := ?_) ?_ ?_
       rotate_left
       ·
        show Act.put _ (some 41) _ = _
        simp only [Act.put, List.setIfInBounds_toArray, List.set_cons_zero, List.set_cons_succ]
        rfl
       refine pure_ (i := 8) (N := some 42) (v := undef) (a' := ?_) #[true, true, true, true, true, true, true, true, true, false, false, false, false, false, false, false] rfl rfl (by kernel_rfl) (fun _ _ _ h => h) (Or.inr ⟨by rfl, rfl⟩) ?_ ?_
       rotate_left
       ·
        simp only [Act.put, List.setIfInBounds_toArray, List.set_cons_zero, List.set_cons_succ]
        rfl
       refine pure_ (i := 9) (N := some 43) (v := ?_) (a' := ?_) #[true, true, true, true, true, true, true, true, true, true, false, false, false, false, false, false] rfl rfl (by kernel_rfl) (fun _ _ _ h => h) (Or.inl ⟨by rfl, ?_⟩) ?_ ?_
       rotate_left
       ·
        intro w'
        go_simp
        with_reducible rfl
       rotate_left
       ·
        simp only [Act.put, List.setIfInBounds_toArray, List.set_cons_zero, List.set_cons_succ]
        rfl
       refine pure_ (i := 10) (N := some 44) (v := ?_) (a' := ?_) #[true, true, true, true, true, true, true, true, true, true, true, false, false, false, false, false] rfl rfl (by kernel_rfl) (fun _ _ _ h => h) (Or.inl ⟨by rfl, ?_⟩) ?_ ?_
       rotate_left
       ·
        intro w'
        go_simp
        with_reducible rfl
       rotate_left
       ·
        simp only [Act.put, List.setIfInBounds_toArray, List.set_cons_zero, List.set_cons_succ]
        rfl
       refine take_ (i := 12) (N := some 46) (v := ?_) (a' := ?_) #[true, true, true, true, true, true, true, true, true, true, true, false, true, false, false, false] rfl rfl (by kernel_rfl) (fun _ _ _ h => h) (Or.inl ⟨by rfl, ?_⟩) hHeld ?_ ?_
       rotate_left
       ·
        rintro w' ⟨s0, s1, s2, s3, s4⟩
        go_simp
        with_reducible rfl
       rotate_left
       ·
        simp only [Act.put, List.setIfInBounds_toArray, List.set_cons_zero, List.set_cons_succ]
        rfl
       refine one_ (i := 11) (N := some 45) #[true, true, true, true, true, true, true, true, true, true, true, true, true, false, false, false] rfl rfl (by kernel_rfl) (by decide) (fun K hK => ?_)
       refine goes_ Tryd.func45 (by kernel_rfl) rfl #[] (by rfl) rfl rfl (by (try simp only [List.map_toArray, List.map_cons, List.map_nil]); first | done | rfl) ?_
       refine (TA.out _).mono ?_
       rintro e w11 ⟨A9, c9, rfl, hc9, hC9, hb⟩
       refine ⟨_, rfl, ?_⟩
       have HTf := Aside0.mk (HTe.out.below hb); have HBf := Aside0.mk (HBe.out.trans (hb.mono HBe.out.size)); have HC9 := Aside0.mk hC9; have HK9 := Lib.hid hc9
       clear hb hC9 hc9
       refine hK.out _ _ (five_of HTf.out) (fun hHeld => ?_)
       clear hK K
       refine norm_ (a' := ?_) ?_ ?_
       rotate_left
       ·
        show Act.put _ (some 45) _ = _
        simp only [Act.put, List.setIfInBounds_toArray, List.set_cons_zero, List.set_cons_succ]
        rfl
       refine one_ (i := 13) (N := some 47) #[true, true, true, true, true, true, true, true, true, true, true, true, true, true, false, false] rfl rfl (by kernel_rfl) (by decide) (fun K hK => ?_)
       refine goes_ Tryd.func37 (by kernel_rfl) rfl #[.slice A9 1 c9, .agg #[.int .u64 (x : Int), .int .u64 (y : Int), .int .u64 (z : Int), .string ⟨#[]⟩, .string ⟨#[]⟩], .bool false] (by rfl) rfl rfl (by (try simp only [List.map_toArray, List.map_cons, List.map_nil]); first | done | rfl) ?_
       refine (T3.out _ _ _ HC9.out HK9.out (HS.out.below HBf.out)).mono ?_
       rintro e w12 ⟨rfl, hb⟩
       refine ⟨_, rfl, ?_⟩
       have HTg := Aside0.mk (HTf.out.below hb); have HBg := Aside0.mk (HBf.out.trans (hb.mono HBf.out.size))
       clear hb
       refine hK.out _ _ (five_of HTg.out) (fun hHeld => ?_)
       clear hK K
       refine norm_ (a' := ?_) ?_ ?_
       rotate_left
       ·
        show Act.put _ (some 47) _ = _
        simp only [Act.put, List.setIfInBounds_toArray, List.set_cons_zero, List.set_cons_succ]
        rfl
       refine pure_ (i := 14) (N := some 48) (v := ?_) (a' := ?_) #[true, true, true, true, true, true, true, true, true, true, true, true, true, true, true, false] rfl rfl (by kernel_rfl) (fun _ _ _ h => h) (Or.inl ⟨by rfl, ?_⟩) ?_ ?_
       rotate_left
       ·
        intro w'
        go_simp
        with_reducible rfl
       rotate_left
       ·
        simp only [Act.put, List.setIfInBounds_toArray, List.set_cons_zero, List.set_cons_succ]
        rfl
       refine pure_ (i := 15) (N := some 6) (v := ?_) (a' := ?_) #[true, true, true, true, true, true, true, true, true, true, true, true, true, true, true, true] rfl rfl (by kernel_rfl) (fun _ _ _ h => h) (Or.inl ⟨by rfl, ?_⟩) ?_ ?_
       rotate_left
       ·
        intro w'
        go_simp
        with_reducible rfl
       rotate_left
       ·
        simp only [Act.put, List.setIfInBounds_toArray, List.set_cons_zero, List.set_cons_succ]
        rfl
       refine done_ (by kernel_rfl) ?_
       go_wp2_with fail
       go_ret
       exact ⟨rfl, HBg.out⟩
      | true =>
       have hv : v = false := by have := HV.out; simpa using this
       subst hv
       clear HV
       go_region_held3 (fun W' => W'.cell? ⟨w.heap.size, 0, none⟩ = some (.int .u64 (x : Int)) ∧ W'.cell? ⟨w.heap.size, 1, none⟩ = some (.int .u64 (y : Int)) ∧ W'.cell? ⟨w.heap.size, 2, none⟩ = some (.int .u64 (z : Int)) ∧ W'.cell? ⟨w.heap.size, 3, none⟩ = some (.string ⟨#[]⟩) ∧ W'.cell? ⟨w.heap.size, 4, none⟩ = some (.string ⟨#[]⟩))
        (exact five_of (HT8.out.below (by repeat (first | (with_reducible first | exact HBS.out | apply below_alloc | apply pw_below_drewN | apply below_drew1) | exact HBS.out)))) (first
        | (go_at_call 37; (with_reducible refine (T1.out _ ?c1 ?c2).mono ?_); (case c1 => exact Kd.C_below HC.out (by repeat (first | (with_reducible first | exact HB8.out | apply below_alloc | apply pw_below_drewN | apply below_drew1) | exact HB8.out))); (case c2 => exact HS.out.below (by repeat (first | (with_reducible first | exact HB8.out | apply below_alloc | apply pw_below_drewN | apply below_drew1) | exact HB8.out))); rintro e w10 ⟨rfl, hb⟩; have n0 := Aside0.mk (below_step (by repeat (first | (with_reducible first | exact HBS.out | apply below_alloc | apply pw_below_drewN | apply below_drew1) | exact HBS.out)) hb); have n1 := Aside0.mk (below_step (by repeat (first | (with_reducible first | exact HB8.out | apply below_alloc | apply pw_below_drewN | apply below_drew1) | exact HB8.out)) hb); clear hb HBS HB8; have HBS := n0; have HB8 := n1; clear n0 n1)
        | (go_at_call 37; (with_reducible refine (T2.out _ ?c1 ?c2).mono ?_); (case c1 => exact Kd.C_below HD.out (by repeat (first | (with_reducible first | exact HB8.out | apply below_alloc | apply pw_below_drewN | apply below_drew1) | exact HB8.out))); (case c2 => exact HS.out.below (by repeat (first | (with_reducible first | exact HB8.out | apply below_alloc | apply pw_below_drewN | apply below_drew1) | exact HB8.out))); rintro e w10 ⟨rfl, hb⟩; have n0 := Aside0.mk (below_step (by repeat (first | (with_reducible first | exact HBS.out | apply below_alloc | apply pw_below_drewN | apply below_drew1) | exact HBS.out)) hb); have n1 := Aside0.mk (below_step (by repeat (first | (with_reducible first | exact HB8.out | apply below_alloc | apply pw_below_drewN | apply below_drew1) | exact HB8.out)) hb); clear hb HBS HB8; have HBS := n0; have HB8 := n1; clear n0 n1)
        | (go_at_call 45; (with_reducible refine (TA.out _).mono ?_); rintro e w9 ⟨A9, c9, rfl, hc9, hC9, hb⟩; have HC9 := Aside0.mk hC9; have HK9 := Lib.hid hc9; have HBN := Aside0.mk (Below.refl w9.heap.size w9); clear hC9 hc9; have n0 := Aside0.mk (below_step (by repeat (first | (with_reducible first | exact HBS.out | apply below_alloc | apply pw_below_drewN | apply below_drew1) | exact HBS.out)) hb); have n1 := Aside0.mk (below_step (by repeat (first | (with_reducible first | exact HB8.out | apply below_alloc | apply pw_below_drewN | apply below_drew1) | exact HB8.out)) hb); clear hb HBS HB8; have HBS := n0; have HB8 := n1; clear n0 n1)
        | (go_at_call 37; (with_reducible refine (T3.out _ _ _ ?c1 ?c2 ?c3).mono ?_); (case c1 => exact Kd.C_below HC9.out (by repeat (first | (with_reducible first | exact HBN.out | apply below_alloc | apply pw_below_drewN | apply below_drew1) | exact HBN.out))); (case c2 => exact HK9.out); (case c3 => exact HS.out.below (by repeat (first | (with_reducible first | exact HB8.out | apply below_alloc | apply pw_below_drewN | apply below_drew1) | exact HB8.out))); rintro e w10 ⟨rfl, hb⟩; have n0 := Aside0.mk (below_step (by repeat (first | (with_reducible first | exact HBS.out | apply below_alloc | apply pw_below_drewN | apply below_drew1) | exact HBS.out)) hb); have n1 := Aside0.mk (below_step (by repeat (first | (with_reducible first | exact HB8.out | apply below_alloc | apply pw_below_drewN | apply below_drew1) | exact HB8.out)) hb); clear hb HBS HB8; have HBS := n0; have HB8 := n1; clear n0 n1))
       all_goals (try go_wp2_with fail)
       all_goals (go_ret; exact ⟨rfl, HB8.out⟩)

end Go.Proofs.YtllkoadcpobdaaaDoor.KX
namespace Go.Proofs.YtllkoadcpobdaaaDoor.KX

open Go Go.RowKit Go.Lib Go.Sort Go.Proofs Go.Proofs.YtllkoadcpobdaaaDoor Go.Proofs.YtllkoadcpobdaaaDoor.Base Go.Proofs.YtllkoadcpobdaaaDoor.L Go.Proofs.YtllkoadcpobdaaaDoor.Bt Go.Proofs.YtllkoadcpobdaaaDoor.Parse Go.Proofs.YtllkoadcpobdaaaDoor.PX

open Go.Proofs.YtllkoadcpobdaaaDoorW.PrintWords Go.Proofs.YtllkoadcpobdaaaDoorW.PrintLast Go.Proofs.YtllkoadcpobdaaaDoorW.PrintMore

set_option linter.unusedVariables false

theorem toList_inj {a b : ByteArray} (h : a.toList = b.toList) : a = b := by
  rw [toList_bl, toList_bl] at h
  exact bl_inj h

theorem eqV_eq {x y : S26} (h : eqV x y = true) : x = y := by
  obtain ⟨a, b, c, p, m⟩ := x
  obtain ⟨a', b', c', p', m'⟩ := y
  unfold eqV at h
  simp only [Bool.and_eq_true, beq_iff_eq] at h
  obtain ⟨rfl, rfl, rfl, h4, h5⟩ := h
  rw [toList_inj h4, toList_inj h5]

theorem mem_step (l : List S26) (v p : S26) (h : p ∈ l ∨ p = v) : p ∈ onceStep l v := by
  unfold onceStep
  split
  · rename_i ha
    rcases h with h | rfl
    · exact h
    · obtain ⟨w, hw, e⟩ := List.any_eq_true.1 ha
      rw [eqV_eq e]
      exact hw
  · rcases h with h | rfl
    · exact List.mem_append_left _ h
    · exact List.mem_append_right _ (List.mem_singleton.2 rfl)

theorem mem_once (l more : List S26) (p : S26) (h : p ∈ l ∨ p ∈ more) : p ∈ onceL l more := by
  unfold onceL
  induction more generalizing l with
  | nil => exact h.elim id (fun h => absurd h List.not_mem_nil)
  | cons v m ih =>
    rw [List.foldl_cons]
    refine ih _ ?_
    rcases h with h | h
    · exact .inl (mem_step l v p (.inl h))
    · rcases List.mem_cons.1 h with rfl | h
      · exact .inl (mem_step l p p (.inr rfl))
      · exact .inr h

theorem mem_B (l : List S26) (x : Rel3) (p : S26) (h : p ∈ l ∨ p = relS x) : p ∈ stepB l x := by
  unfold stepB
  refine mem_once _ _ _ (.inl (mem_once _ _ _ ?_))
  exact h.imp_right (fun e => List.mem_singleton.2 e)

theorem mem_foldB (m : List Rel3) (l : List S26) (p : S26) (h : p ∈ l ∨ ∃ y ∈ m, p = relS y) : p ∈ m.foldl stepB l := by
  induction m generalizing l with
  | nil => exact h.elim id (fun ⟨y, hy, _⟩ => absurd hy List.not_mem_nil)
  | cons x m ih =>
    rw [List.foldl_cons]
    refine ih _ ?_
    rcases h with h | ⟨y, hy, e⟩
    · exact .inl (mem_B l x p (.inl h))
    · rcases List.mem_cons.1 hy with rfl | hy
      · exact .inl (mem_B l y p (.inr e))
      · exact .inr ⟨y, hy, e⟩

/-- What a term puts among the points. -/
def OfT (t : S24) (p : S26) : Prop := p = relS (lowT t) ∨ ∃ y ∈ blkX (lowT t), p = relS y

theorem mem_T (l : List S26) (t : S24) (p : S26) (h : p ∈ l ∨ OfT t p) : p ∈ stepT l t := by
  unfold stepT
  refine mem_foldB _ _ _ ?_
  rcases h with h | h | h
  · exact .inl (mem_once _ _ _ (.inl h))
  · exact .inl (mem_once _ _ _ (.inr (List.mem_singleton.2 h)))
  · exact .inr h

theorem mem_R (r : List S24) (l : List S26) (p : S26) (h : p ∈ l ∨ ∃ t ∈ r, OfT t p) : p ∈ stepR l r := by
  unfold stepR
  induction r generalizing l with
  | nil => exact h.elim id (fun ⟨y, hy, _⟩ => absurd hy List.not_mem_nil)
  | cons x m ih =>
    rw [List.foldl_cons]
    refine ih _ ?_
    rcases h with h | ⟨y, hy, e⟩
    · exact .inl (mem_T l x p (.inl h))
    · rcases List.mem_cons.1 hy with rfl | hy
      · exact .inl (mem_T l y p (.inr e))
      · exact .inr ⟨y, hy, e⟩

theorem mem_foldR (c : List (List S24)) (l : List S26) (p : S26) (h : p ∈ l ∨ ∃ r ∈ c, ∃ t ∈ r, OfT t p) : p ∈ c.foldl stepR l := by
  induction c generalizing l with
  | nil => exact h.elim id (fun ⟨y, hy, _⟩ => absurd hy List.not_mem_nil)
  | cons x m ih =>
    rw [List.foldl_cons]
    refine ih _ ?_
    rcases h with h | ⟨y, hy, e⟩
    · exact .inl (mem_R x l p (.inl h))
    · rcases List.mem_cons.1 hy with rfl | hy
      · exact .inl (mem_R y l p (.inr e))
      · exact .inr ⟨y, hy, e⟩

theorem mem_points (c : List (List S24)) (r : List S24) (t : S24) (p : S26) (hr : r ∈ c) (ht : t ∈ r) (h : OfT t p) : p ∈ pointsM c := mem_foldR _ _ _ (.inr ⟨r, hr, t, ht, h⟩)

theorem zero_points (c : List (List S24)) : relS (0, 0, 0) ∈ pointsM c := mem_foldR _ _ _ (.inl (List.mem_singleton.2 rfl))

theorem blk_mem (k : Int) (x y : Rel3) (hk : k = 1 ∨ k = 2 ∨ k = 3) (h : blkF k x.1 x.2.1 x.2.2 = some y) : y ∈ blkX x := by
  unfold blkX blkUp
  rw [List.mem_filterMap]
  rcases hk with rfl | rfl | rfl
  · exact ⟨0, by decide, h⟩
  · exact ⟨1, by decide, h⟩
  · exact ⟨2, by decide, h⟩

/-- The one is below the other. -/
def LowS (p q : S26) : Prop := Low p.f0.toNat p.f1.toNat p.f2.toNat q.f0.toNat q.f1.toNat q.f2.toNat

theorem landing (v : S26) (ps : List S26) (h : ∃ q ∈ ps, ¬ LowS v q) : ∃ p ∈ ps, ¬ LowS v p ∧ ∀ q ∈ ps, ¬ LowS v q → ¬ LowS p q := by
  induction ps with
  | nil => obtain ⟨q, hq, _⟩ := h; exact absurd hq List.not_mem_nil
  | cons x t ih =>
    by_cases ht : ∃ q ∈ t, ¬ LowS v q
    · obtain ⟨p, hp, h1, h2⟩ := ih ht
      by_cases hx : LowS v x
      · exact ⟨p, List.mem_cons_of_mem _ hp, h1, fun q hq hn => (List.mem_cons.1 hq).elim (fun e => absurd (e ▸ hx) hn) (fun hq => h2 q hq hn)⟩
      · by_cases hpx : LowS p x
        · refine ⟨x, List.mem_cons_self, hx, fun q hq hn => (List.mem_cons.1 hq).elim (fun e => ?_) (fun hq => ?_)⟩
          · rw [e]; unfold LowS Low; omega
          · have := h2 q hq hn
            unfold LowS Low at *
            omega
        · exact ⟨p, List.mem_cons_of_mem _ hp, h1, fun q hq hn => (List.mem_cons.1 hq).elim (fun e => e ▸ hpx) (fun hq => h2 q hq hn)⟩
    · obtain ⟨q, hq, hn⟩ := h
      rcases List.mem_cons.1 hq with rfl | hq
      · refine ⟨q, List.mem_cons_self, hn, fun z hz hzn => (List.mem_cons.1 hz).elim (fun e => ?_) (fun hz => absurd ⟨z, hz, hzn⟩ ht)⟩
        rw [e]; unfold LowS Low; omega
      · exact absurd ⟨q, hq, hn⟩ ht

theorem low_same {v p q : S26} (h1 : ¬ LowS v p) (h2 : ¬ LowS v q → ¬ LowS p q) : LowS v q ↔ LowS p q := by
  constructor
  · intro h
    unfold LowS Low at *
    omega
  · intro h
    by_cases hv : LowS v q
    · exact hv
    · exact absurd h (h2 hv)

/-- A release as a version. -/
def verX (x : Rel3) : Ver := vOf (x.1 : Int) (x.2.1 : Int) (x.2.2 : Int) ⟨#[]⟩ ⟨#[]⟩

theorem term_same (t : S24) (hs : t.f5.size ≤ 2147483647) (hg : goodR t = true) (ho : OkP t) (v p : Rel3) (pre : Bool) (hv : U64 v) (hp : U64 p) (h : ∀ q, OfT t q → (LowS (relS v) q ↔ LowS (relS p) q)) : oneB (verX v) pre t = oneB (verX p) pre t := by
  have G := goodR_G t hs hg
  obtain ⟨f0, f1, f2, f3, f4, f5⟩ := t
  obtain ⟨a, rfl⟩ := Int.eq_ofNat_of_zero_le ho.a.1
  obtain ⟨b, rfl⟩ := Int.eq_ofNat_of_zero_le ho.b.1
  obtain ⟨c, rfl⟩ := Int.eq_ofNat_of_zero_le ho.c.1
  have rv : ∀ x : Rel3, (pre || ((verX x).pre.toList == [])) = true := fun x => by
    rw [preT (v := verX x) rfl, Bool.or_true]
  have T : ∀ x : Rel3, oneB (verX x) pre ⟨f0, f1, (a : Int), (b : Int), (c : Int), f5⟩ = compB f0 f1 (verX x) (vOf a b c f5 ⟨#[]⟩) := fun x =>
    term_l f0 f1 a b c f5 (verX x) ⟨#[]⟩ pre (rv x) G (fun _ => .inr rfl)
  rw [T, T]
  refine comp_same f0 f1 rfl rfl ?_ G.g0 G.g3 (fun h => by have h' : (c : Int) = 0 := G.pa h; show c = 0; omega) (fun h => by have h' : (b : Int) = 0 := G.mi h; show b = 0; omega)
  refine alike_of _ _ _ hv.1 hv.2.1 hv.2.2 hp.1 hp.2.1 hp.2.2 (h _ (.inl rfl)) ?_
  intro k hk x hx
  exact h (relS x) (.inr ⟨x, blk_mem k (a, b, c) x hk hx, rfl⟩)

theorem at_same (l ll : List (List S24)) (hl : ∀ r ∈ l, r ∈ ll) (hf : l.all fitsR = true) (hg : GoodL l 0 10) (ho : ∀ r ∈ l, ∀ t ∈ r, OkP t) (v p : Rel3) (hv : U64 v) (hp : U64 p) (h : ∀ q ∈ pointsM ll, (LowS (relS v) q ↔ LowS (relS p) q)) : atV l (relS v) = atV l (relS p) := by
  have hT : ∀ r ∈ l, ∀ pre, r.all (oneB (verX v) pre) = r.all (oneB (verX p) pre) := by
    intro r hr pre
    have hfr := List.all_eq_true.1 hf r hr
    unfold fitsR at hfr
    rw [Bool.and_eq_true] at hfr
    have : ∀ t ∈ r, oneB (verX v) pre t = oneB (verX p) pre t := fun t ht =>
      term_same t (by have := List.all_eq_true.1 hfr.2 t ht; simpa using this) (List.all_eq_true.1 (hg.1 r hr).1 t ht) (ho r hr t ht) v p pre hv hp (fun q hq => h q (mem_points ll r t q (hl r hr) ht hq))
    rw [Bool.eq_iff_iff, List.all_eq_true, List.all_eq_true]
    exact ⟨fun h2 t ht => by rw [← this t ht]; exact h2 t ht, fun h2 t ht => by rw [this t ht]; exact h2 t ht⟩
  show holdsB (verX v) false l = holdsB (verX p) false l
  unfold holdsB
  rw [Bool.eq_iff_iff, List.any_eq_true, List.any_eq_true]
  exact ⟨fun ⟨r, hr, h2⟩ => ⟨r, hr, by rw [← hT r hr]; exact h2⟩, fun ⟨r, hr, h2⟩ => ⟨r, hr, by rw [hT r hr]; exact h2⟩⟩

theorem apart_pure (c d : List (List S24)) (v : Rel3) (hv : U64 v) (hn : ∀ p ∈ c ++ d, ∀ t ∈ p, OkP t) (f1 : c.all fitsR = true) (f2 : d.all fitsR = true) (g1 : GoodL c 0 10) (g2 : GoodL d 0 10) (he : eachB c d = true) : (atV c (relS v) && atV d (relS v)) = false := by
  obtain ⟨p, hp, h1, h2⟩ := landing (relS v) (pointsM (c ++ d)) ⟨_, zero_points _, by
    show ¬ Low _ _ _ 0 0 0
    unfold Low; omega⟩
  obtain ⟨x, hx, rfl⟩ := goodP_points (c ++ d) (fun r hr => hn r hr) p hp
  have hs : ∀ q ∈ pointsM (c ++ d), (LowS (relS v) q ↔ LowS (relS x) q) := fun q hq => low_same h1 (h2 q hq)
  rw [at_same c (c ++ d) (fun r hr => List.mem_append_left _ hr) f1 g1 (fun r hr => hn r (List.mem_append_left _ hr)) v x hv hx hs, at_same d (c ++ d) (fun r hr => List.mem_append_right _ hr) f2 g2 (fun r hr => hn r (List.mem_append_right _ hr)) v x hv hx hs]
  have ht : (!atV c (relS x) || !atV d (relS x)) = true := List.all_eq_true.1 he _ hp
  revert ht
  cases atV c (relS x) <;> cases atV d (relS x) <;> simp

end Go.Proofs.YtllkoadcpobdaaaDoor.KX
