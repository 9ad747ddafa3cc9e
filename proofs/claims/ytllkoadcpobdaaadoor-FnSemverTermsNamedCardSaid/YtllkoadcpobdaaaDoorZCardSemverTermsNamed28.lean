/- The row and the tied card of FnSemverTermsNamed, out of its printed walk and its plain law. For every input that the statement lets in. -/
import Derived.Test.YtllkoadcpobdaaaDoorZCardSemverTermsNamed6
import Derived.Test.YtllkoadcpobdaaaDoorZCardSemverTermsNamed7
import Derived.Test.YtllkoadcpobdaaaDoorZCardSemverTermsNamed24
import Derived.Test.YtllkoadcpobdaaaDoorZCardSemverTermsNamed27
namespace Go.Proofs.YtllkoadcpobdaaaDoor.Base
end Go.Proofs.YtllkoadcpobdaaaDoor.Base
namespace Go.Proofs.YtllkoadcpobdaaaDoor.Bt
end Go.Proofs.YtllkoadcpobdaaaDoor.Bt
namespace Go.Proofs.YtllkoadcpobdaaaDoor.L
end Go.Proofs.YtllkoadcpobdaaaDoor.L
namespace Go.Proofs.YtllkoadcpobdaaaDoor.PX
end Go.Proofs.YtllkoadcpobdaaaDoor.PX
namespace Go.Proofs.YtllkoadcpobdaaaDoor.Parse
end Go.Proofs.YtllkoadcpobdaaaDoor.Parse
namespace Go.Proofs.YtllkoadcpobdaaaDoor.KX

open Go Go.RowKit Go.Lib Go.Proofs Go.Proofs.YtllkoadcpobdaaaDoor.Base Go.Proofs.YtllkoadcpobdaaaDoor.L Go.Proofs.YtllkoadcpobdaaaDoor.Bt Go.Proofs.YtllkoadcpobdaaaDoor.Parse Go.Proofs.YtllkoadcpobdaaaDoor.PX

open Go.Proofs.YtllkoadcpobdaaaDoorW.PrintWords Go.Proofs.YtllkoadcpobdaaaDoorW.PrintLast Go.Proofs.YtllkoadcpobdaaaDoorW.PrintMore

theorem rdTm_get (l : List S24) (i : Nat) (h : i < l.length) : rd_T24 l (i : Int) = l[i] := by
  unfold rd_T24
  rw [Int.toNat_natCast, List.getD_eq_getElem?_getD, List.getElem?_eq_getElem h]; rfl

/-- A list of terms, none of them too long. -/
def fitsB (l : List S24) : Bool := l.all (fun x => decide (x.f5.size ≤ 2147483647))

theorem fits12_l0 (l : List S24) (hl : l.length ≤ 2147483647) : ∀ (d k i : Nat), l.length - i = d → i ≤ l.length → d < k → laws_zzFits12.l0 k l (l.length : Int) (i : Int) = some (fitsB (l.drop i)) := by
  intro d
  induction d with
  | zero =>
    intro k i hd hi hk
    obtain ⟨k, rfl⟩ : ∃ m, k = m + 1 := ⟨k - 1, by omega⟩
    simp only [laws_zzFits12.l0]
    rw [if_neg (by omega), List.drop_of_length_le (by omega)]
    rfl
  | succ d ih =>
    intro k i hd hi hk
    obtain ⟨k, rfl⟩ : ∃ m, k = m + 1 := ⟨k - 1, by omega⟩
    have hlt : i < l.length := by omega
    simp only [laws_zzFits12.l0]
    rw [if_pos (by omega), if_pos (by omega), if_pos (by omega), fits13_f, Option.bind_some, rdTm_get l i hlt]
    have e : fitsB (l.drop i) = (decide (l[i].f5.size ≤ 2147483647) && fitsB (l.drop (i + 1))) := by
      rw [List.drop_eq_getElem_cons hlt]; rfl
    rw [e]
    by_cases h : l[i].f5.size ≤ 2147483647
    · rw [decide_eq_true h, if_pos rfl, w64 (by omega) (by omega), show ((i : Int) + 1) = ((i + 1 : Nat) : Int) by omega, ih k (i + 1) (by omega) (by omega) (by omega), Bool.true_and]
    · rw [decide_eq_false h, if_neg (by decide), Bool.false_and]

theorem fits12_f (l : List S24) (k : Nat) (hk : l.length < k) : laws_zzFits12.f k l = some (decide (l.length ≤ 2147483647) && fitsB l) := by
  unfold laws_zzFits12.f
  by_cases h : l.length ≤ 2147483647
  · rw [if_neg (by omega), decide_eq_true h, Bool.true_and]
    have := fits12_l0 l h l.length k 0 (by omega) (by omega) hk
    rw [List.drop_zero] at this
    exact this
  · rw [if_pos (by omega), decide_eq_false h, Bool.false_and]

theorem hasPre_l0 (l : List S24) (hl : l.length ≤ 2147483647) : ∀ (d k i : Nat), l.length - i = d → i ≤ l.length → d < k → spec_HasPre.l0 k l (l.length : Int) (i : Int) = some ((l.drop i).any hasP) := by
  intro d
  induction d with
  | zero =>
    intro k i hd hi hk
    obtain ⟨k, rfl⟩ : ∃ m, k = m + 1 := ⟨k - 1, by omega⟩
    simp only [spec_HasPre.l0]
    rw [if_neg (by omega), List.drop_of_length_le (by omega)]
    rfl
  | succ d ih =>
    intro k i hd hi hk
    obtain ⟨k, rfl⟩ : ∃ m, k = m + 1 := ⟨k - 1, by omega⟩
    have hlt : i < l.length := by omega
    simp only [spec_HasPre.l0]
    rw [if_pos (by omega), if_pos (by omega), if_pos (by omega), rdTm_get l i hlt, List.drop_eq_getElem_cons hlt, List.any_cons]
    unfold hasP
    rw [toList_bl]
    by_cases h : bl l[i].f5 = []
    · rw [if_pos h, w64 (by omega) (by omega), show ((i : Int) + 1) = ((i + 1 : Nat) : Int) by omega, ih k (i + 1) (by omega) (by omega) (by omega), beq_iff_eq.2 h]
      rfl
    · rw [if_neg h, beq_eq_false_iff_ne.2 h]; rfl

theorem hasPre_f (l : List S24) (hl : l.length ≤ 2147483647) (k : Nat) (hk : l.length < k) : spec_HasPre.f k l = some (l.any hasP) := by
  have := hasPre_l0 l hl l.length k 0 (by omega) (by omega) hk
  rw [List.drop_zero] at this
  exact this

/-- What GoodTerm answers. -/
def goodR (x : S24) : Bool := (spec_GoodTerm.f (2 * x.f5.size + 14) x.f0 x.f1 x.f2 x.f3 x.f4 x.f5).getD false

theorem goodR_f (x : S24) (h : x.f5.size ≤ 2147483647) (k : Nat) (hk : 2 * x.f5.size + 14 ≤ k) : spec_GoodTerm.f k x.f0 x.f1 x.f2 x.f3 x.f4 x.f5 = some (goodR x) := by
  obtain ⟨r, hr, _⟩ := goodTerm_f (2 * x.f5.size + 14) x.f0 x.f1 x.f2 x.f3 x.f4 x.f5 h (Nat.le_refl _)
  have e : goodR x = r := by unfold goodR; rw [hr]; rfl
  rw [e]
  obtain ⟨d, rfl⟩ : ∃ d, k = 2 * x.f5.size + 14 + d := ⟨k - (2 * x.f5.size + 14), by omega⟩
  clear hk
  induction d with
  | zero => exact hr
  | succ d ih => exact spec_GoodTerm.mono _ _ _ _ _ _ _ r ih

theorem goodR_G (x : S24) (h : x.f5.size ≤ 2147483647) (hg : goodR x = true) : GoodT x.f0 x.f1 x.f2 x.f3 x.f4 (bl x.f5) := by
  obtain ⟨r, hr, hG⟩ := goodTerm_f (2 * x.f5.size + 14) x.f0 x.f1 x.f2 x.f3 x.f4 x.f5 h (Nat.le_refl _)
  have e : goodR x = r := by unfold goodR; rw [hr]; rfl
  exact hG (by rw [← e, hg])

def szs (l : List S24) : Nat := (l.map (fun x => x.f5.size)).sum

theorem szs_le {l : List S24} {x : S24} (h : x ∈ l) : x.f5.size ≤ szs l := by
  induction l with
  | nil => cases h
  | cons y t ih =>
    unfold szs at ih ⊢
    rw [List.map_cons, List.sum_cons]
    rcases List.mem_cons.1 h with rfl | h
    · omega
    · have := ih h; omega

/-- One list: what GoodTerms does with it. -/
theorem goodTs_l1 (l : List S24) (ll : List (List S24)) (n N m q : Int) (hl : l.length ≤ 2147483647) (hf : fitsB l = true) : ∀ (d k i : Nat), l.length - i = d → i ≤ l.length → 2 * szs l + 20 + d < k →
    spec_GoodTerms.l1 k N n l ll m q l (l.length : Int) (i : Int) = if (l.drop i).all goodR = true then (if (l.length : Int) = 0 then (some false) else (if (wrap64 (n + (l.length : Int))) > N then (some false) else (spec_GoodTerms.l0 (k - d - 1) N (wrap64 (n + (l.length : Int))) ll m (wrap64 (q + 1))))) else some false := by
  intro d
  induction d with
  | zero =>
    intro k i hd hi hk
    obtain ⟨k, rfl⟩ : ∃ m, k = m + 1 := ⟨k - 1, by omega⟩
    simp only [spec_GoodTerms.l1]
    rw [if_neg (by omega), List.drop_of_length_le (by omega), List.all_nil, if_pos rfl]
    rfl
  | succ d ih =>
    intro k i hd hi hk
    obtain ⟨k, rfl⟩ : ∃ m, k = m + 1 := ⟨k - 1, by omega⟩
    have hlt : i < l.length := by omega
    have hx : l[i].f5.size ≤ 2147483647 := by
      have := List.all_eq_true.1 hf _ (List.getElem_mem hlt)
      simpa using this
    have hz := szs_le (List.getElem_mem hlt)
    simp only [spec_GoodTerms.l1]
    rw [if_pos (by omega), if_pos (by omega), if_pos (by omega), rdTm_get l i hlt, goodR_f l[i] hx k (by omega), Option.bind_some, List.drop_eq_getElem_cons hlt, List.all_cons]
    cases hg : goodR l[i]
    · rfl
    · rw [if_pos rfl, w64 (by omega) (by omega), show ((i : Int) + 1) = ((i + 1 : Nat) : Int) by omega, ih k (i + 1) (by omega) (by omega) (by omega), Bool.true_and]
      rw [show k - d - 1 = k + 1 - (d + 1) - 1 by omega]

theorem goodTs_one (l : List S24) (N : Nat) (hN : N ≤ 1000) (hl : l.length ≤ 2147483647) (hf : fitsB l = true) (k : Nat) (hk : 2 * szs l + l.length + 30 < k) :
    spec_GoodTerms.f k [l] N = some (l.all goodR && (decide (0 < l.length) && decide (l.length ≤ N))) := by
  obtain ⟨k, rfl⟩ : ∃ m, k = m + 1 := ⟨k - 1, by omega⟩
  unfold spec_GoodTerms.f
  simp only [spec_GoodTerms.l0]
  have e0 : rd_L5 [l] 0 = l := rfl
  rw [if_pos (by simp), if_pos (by decide), if_pos (by simp), e0]
  have := goodTs_l1 l [l] 0 N 1 0 hl hf l.length k 0 (by omega) (by omega) (by omega)
  rw [List.drop_zero] at this
  have this' : spec_GoodTerms.l1 k N 0 l [l] 1 0 l (l.length : Int) 0 = _ := this
  show spec_GoodTerms.l1 k N 0 l [l] 1 0 l (l.length : Int) 0 = _
  rw [this', w64 (by omega) (by omega)]
  cases l.all goodR
  · rfl
  · rw [if_pos rfl, Bool.true_and]
    by_cases h0 : l.length = 0
    · rw [if_pos (by omega), decide_eq_false (by omega), Bool.false_and]
    · rw [if_neg (by omega), decide_eq_true (by omega), Bool.true_and]
      by_cases h1 : l.length ≤ N
      · rw [if_neg (by omega), decide_eq_true h1]
        obtain ⟨j, hj⟩ : ∃ m, k - l.length - 1 = m + 1 := ⟨k - l.length - 2, by omega⟩
        rw [hj]
        simp only [spec_GoodTerms.l0]
        rw [w64 (by omega) (by omega), if_neg (by omega), decide_eq_true (by omega)]
      · rw [if_pos (by omega), decide_eq_false h1]

theorem scGood_l1 (l : List S24) (ll : List (List S24)) (m q : Int) (hl : l.length ≤ 2147483647) : ∀ (d k i : Nat), l.length - i = d → i ≤ l.length → d + 2 < k →
    ∃ r, laws_scGood.l1 k ll m q l (l.length : Int) (i : Int) = r ∧ (r = some false ∨ r = laws_scGood.l0 (k - d - 1) ll m (wrap64 (q + 1))) := by
  intro d
  induction d with
  | zero =>
    intro k i hd hi hk
    obtain ⟨k, rfl⟩ : ∃ m, k = m + 1 := ⟨k - 1, by omega⟩
    simp only [laws_scGood.l1]
    rw [if_neg (by omega)]
    exact ⟨_, rfl, .inr rfl⟩
  | succ d ih =>
    intro k i hd hi hk
    obtain ⟨k, rfl⟩ : ∃ m, k = m + 1 := ⟨k - 1, by omega⟩
    simp only [laws_scGood.l1]
    rw [if_pos (by omega), if_pos (by omega), if_pos (by omega)]
    split
    · exact ⟨_, rfl, .inl rfl⟩
    · rw [w64 (by omega) (by omega), show ((i : Int) + 1) = ((i + 1 : Nat) : Int) by omega]
      obtain ⟨r, h1, h2⟩ := ih k (i + 1) (by omega) (by omega) (by omega)
      rw [show k + 1 - (d + 1) - 1 = k - d - 1 by omega]
      exact ⟨r, h1, h2⟩

theorem scList_f (l : List S24) (hl : l.length ≤ 2147483647) (hf : fitsB l = true) (k : Nat) (hk : 2 * szs l + l.length + 40 < k) :
    ∃ r, laws_scList.f k l = some r ∧ (r = true → l.all goodR = true ∧ 0 < l.length ∧ l.length ≤ 24) := by
  unfold laws_scList.f laws_scGood.f
  have h24 : spec_GoodTerms.f k [l] 24 = _ := goodTs_one l 24 (by omega) hl hf k (by omega)
  rw [h24, Option.bind_some]
  by_cases h : (l.all goodR && (decide (0 < l.length) && decide (l.length ≤ 24))) = true
  · rw [if_pos h]
    rw [Bool.and_eq_true, Bool.and_eq_true, decide_eq_true_eq, decide_eq_true_eq] at h
    obtain ⟨k, rfl⟩ : ∃ m, k = m + 1 := ⟨k - 1, by omega⟩
    simp only [laws_scGood.l0]
    have e0 : rd_L5 [l] 0 = l := rfl
    rw [if_pos (by simp), if_pos (by decide), if_pos (by simp), e0]
    obtain ⟨r, h1, h2⟩ := scGood_l1 l [l] 1 0 hl l.length k 0 (by omega) (by omega) (by omega)
    have h1' : laws_scGood.l1 k [l] (([l] : List (List S24)).length : Int) 0 l (l.length : Int) 0 = r := h1
    rw [h1']
    rcases h2 with rfl | rfl
    · exact ⟨false, rfl, by simp⟩
    · obtain ⟨j, hj⟩ : ∃ m, k - l.length - 1 = m + 1 := ⟨k - l.length - 2, by omega⟩
      rw [hj]
      simp only [laws_scGood.l0]
      rw [w64 (by omega) (by omega), if_neg (by decide)]
      exact ⟨true, rfl, fun _ => ⟨h.1, h.2.1, h.2.2⟩⟩
  · rw [if_neg h]
    exact ⟨false, rfl, by simp⟩

theorem okR_of (l : List S24) (hf : fitsB l = true) (hg : l.all goodR = true) (h0 : 0 < l.length) (h1 : l.length ≤ 1000000000) (hn : ∀ x ∈ l, 0 ≤ x.f2 ∧ 0 ≤ x.f3 ∧ 0 ≤ x.f4) : okRB l = true := by
  unfold okRB
  simp only [Bool.and_eq_true, Bool.not_eq_true', List.isEmpty_eq_false_iff, decide_eq_true_eq, List.all_eq_true]
  refine ⟨⟨List.length_pos_iff.1 h0, h1⟩, fun x hx => ?_⟩
  have hs : x.f5.size ≤ 2147483647 := by have := List.all_eq_true.1 hf x hx; simpa using this
  have G := goodR_G x hs (List.all_eq_true.1 hg x hx)
  unfold okTB
  rw [decide_eq_true_eq]
  exact ⟨G.op0, G.op8, G.g0, (hn x hx).1, (hn x hx).2.1, (hn x hx).2.2, hs⟩

end Go.Proofs.YtllkoadcpobdaaaDoor.KX
