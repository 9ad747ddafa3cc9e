/- The row and the tied card of FnSemverTermHolds, out of its printed walk and its plain law. For every input that the statement lets in. -/
import Derived.Test.YtllkoadcpobdaaaDoorZCardSemverTermHolds6
import Derived.Test.YtllkoadcpobdaaaDoorZCardSemverTermHolds7
import Derived.Test.YtllkoadcpobdaaaDoorZCardSemverTermHolds9
import Derived.Test.YtllkoadcpobdaaaDoorZCardSemverTermHolds15
import Derived.Test.YtllkoadcpobdaaaDoorZCardSemverTermHolds19
import Derived.Test.YtllkoadcpobdaaaDoorZCardSemverTermHolds24
namespace Go.Proofs.YtllkoadcpobdaaaDoor.Bt
end Go.Proofs.YtllkoadcpobdaaaDoor.Bt
namespace Go.Proofs.YtllkoadcpobdaaaDoor.L
end Go.Proofs.YtllkoadcpobdaaaDoor.L
namespace Go.Proofs.YtllkoadcpobdaaaDoor.Num
end Go.Proofs.YtllkoadcpobdaaaDoor.Num
namespace Go.Proofs.YtllkoadcpobdaaaDoor.PX
end Go.Proofs.YtllkoadcpobdaaaDoor.PX
namespace Go.Proofs.YtllkoadcpobdaaaDoor.Parse
end Go.Proofs.YtllkoadcpobdaaaDoor.Parse
namespace Go.Proofs.YtllkoadcpobdaaaDoor.Part
end Go.Proofs.YtllkoadcpobdaaaDoor.Part
namespace Go.Proofs.YtllkoadcpobdaaaDoor.KX

open Go Go.RowKit Go.Lib Go.Proofs Go.Proofs.YtllkoadcpobdaaaDoor.L Go.Proofs.YtllkoadcpobdaaaDoor.Bt Go.Proofs.YtllkoadcpobdaaaDoor.Parse Go.Proofs.YtllkoadcpobdaaaDoor.Part Go.Proofs.YtllkoadcpobdaaaDoor.Num Go.Proofs.YtllkoadcpobdaaaDoor.PX

open Go.Proofs.YtllkoadcpobdaaaDoorW.PrintWords Go.Proofs.YtllkoadcpobdaaaDoorW.PrintLast Go.Proofs.YtllkoadcpobdaaaDoorW.PrintMore

theorem wrapNat (n : Nat) (h : n ≤ 4000000000) : IntKind.u64.wrap (n : Int) = (n : Int) := by
  rw [IntKind.wrap_u64]; omega

theorem comparePart_f (a b : ByteArray) (ha : a.size ≤ 2147483647) (hb : b.size ≤ 2147483647) (k : Nat) (hk : a.size + b.size + 1 < k) : spec_ComparePart.f k a b = some (specPart (bl a) (bl b)) := by
  have j0 : ∀ (k : Nat), a.size + b.size < k → ∀ fl : Bool, bl a ≠ bl b → (digP (bl a) && digP (bl b) && (bl a).length != (bl b).length) = fl → spec_ComparePart.j0 (k + 1) a b fl = some (specPart (bl a) (bl b)) := by
    intro k hk fl hne hfl
    simp only [spec_ComparePart.j0]
    unfold specPart
    rw [if_neg hne, hfl]
    cases fl with
    | true =>
      rw [if_pos rfl, if_pos rfl, wrapNat _ (by omega), wrapNat _ (by omega), order_f, bl_len, bl_len]
      unfold ordI
      have hl : (bl a).length ≠ (bl b).length := by
        rw [Bool.and_eq_true] at hfl
        exact bne_iff_ne.1 hfl.2
      rw [bl_len, bl_len] at hl
      by_cases q : a.size < b.size
      · rw [if_pos (by omega), if_pos q]; rfl
      · rw [if_neg (by omega), if_pos (by omega), if_neg q]; rfl
    | false =>
      simp only [Bool.false_eq_true, if_false]
      rw [digits_f a ha k (by omega), digits_f b hb k (by omega), Option.bind_some, Option.bind_some]
      show (if (digP (bl a) != digP (bl b)) = true then _ else _) = _
      rw [toList_bl, toList_bl]
      cases digP (bl a) != digP (bl b)
      · simp only [Bool.false_eq_true, if_false]
        split <;> rfl
      · simp only [if_true, Option.bind_some]
        show (if digP (bl a) = true then _ else _) = _
        split <;> rfl
  obtain ⟨k, rfl⟩ : ∃ m, k = m + 1 := ⟨k - 1, by omega⟩
  unfold spec_ComparePart.f
  rw [toList_bl, toList_bl]
  by_cases e : bl a = bl b
  · rw [if_pos e]; unfold specPart; rw [if_pos e]
  · rw [if_neg e, digits_f a ha _ (by omega), Option.bind_some]
    show (if digP (bl a) = true then _ else _) = _
    cases da : digP (bl a)
    · rw [if_neg (by decide)]
      exact j0 k (by omega) false e (by rw [da]; rfl)
    · rw [if_pos rfl, digits_f b hb _ (by omega), Option.bind_some]
      show (if digP (bl b) = true then _ else _) = _
      cases db : digP (bl b)
      · rw [if_neg (by decide)]
        exact j0 k (by omega) false e (by rw [da, db]; rfl)
      · rw [if_pos rfl]
        refine j0 k (by omega) _ e ?_
        rw [da, db, bl_len, bl_len, Bool.true_and, Bool.true_and, Bool.eq_iff_iff, bne_iff_ne, bne_iff_ne]
        omega

/-- The documented comparison of lists of identifiers. -/
def spl : List (List UInt8) → List (List UInt8) → Int
  | a :: x, b :: y => if specPart a b = 0 then spl x y else specPart a b
  | [], [] => 0
  | [], _ :: _ => -1
  | _ :: _, [] => 1

theorem spl_eq : ∀ (x y : List (List UInt8)), (∀ p ∈ x, goodP p = true) → (∀ p ∈ y, goodP p = true) → spl x y = cpl x y
  | a :: x, b :: y, hx, hy => by
    rw [spl, cpl, specPart_eq a b (hx a (by simp)) (hy b (by simp)), spl_eq x y (fun p h => hx p (by simp [h])) (fun p h => hy p (by simp [h]))]
  | [], [], _, _ => by rw [spl, cpl]
  | [], b :: y, _, hy => by
    have hb := (goodP_parts (hy b (by simp))).1
    have e : cpp [] b = -1 := by unfold cpp; rw [if_neg (Ne.symm hb), if_pos rfl]
    rw [spl, cpl, e]; rfl
  | a :: x, [], hx, _ => by
    have ha := (goodP_parts (hx a (by simp))).1
    have e : cpp a [] = 1 := by unfold cpp; rw [if_neg ha, if_neg ha, if_pos rfl]
    rw [spl, cpl, e]; rfl

theorem spl_drop_out (x y : List (List UInt8)) (i : Nat) (h : ¬ (i < x.length ∧ i < y.length)) (hx : i ≤ x.length) (hy : i ≤ y.length) : spl (x.drop i) (y.drop i) = ordI (x.length : Int) (y.length : Int) := by
  unfold ordI
  by_cases h1 : i < x.length
  · have h2 : y.length = i := by omega
    rw [List.drop_eq_getElem_cons h1, List.drop_of_length_le (by omega : y.length ≤ i), spl, if_neg (by omega), if_pos (by omega)]
  · by_cases h3 : i < y.length
    · rw [List.drop_of_length_le (by omega : x.length ≤ i), List.drop_eq_getElem_cons h3, spl, if_pos (by omega)]
    · rw [List.drop_of_length_le (by omega : x.length ≤ i), List.drop_of_length_le (by omega : y.length ≤ i), spl, if_neg (by omega), if_neg (by omega)]

theorem comparePre_l0 (x y : List (List UInt8)) (B : Nat) (hB : B ≤ 2147483647) (hx : x.length ≤ 4000000000) (hy : y.length ≤ 4000000000) (bx : ∀ p ∈ x, p.length ≤ B) (by' : ∀ p ∈ y, p.length ≤ B) :
    ∀ (d k i : Nat), x.length - i = d → i ≤ x.length → i ≤ y.length → 2 * B + 2 * d + 4 < k →
    spec_ComparePre.l0 k (x.map ofL) (y.map ofL) (i : Int) = some (spl (x.drop i) (y.drop i)) := by
  intro d
  induction d with
  | zero =>
    intro k i hd hi hi2 hk
    obtain ⟨k, rfl⟩ : ∃ m, k = m + 2 := ⟨k - 2, by omega⟩
    simp only [spec_ComparePre.l0, spec_ComparePre.j1, List.length_map]
    rw [if_neg (by omega), if_neg (by decide), wrapNat _ (by omega), wrapNat _ (by omega), order_f, spl_drop_out x y i (by omega) hi hi2]
    rfl
  | succ d ih =>
    intro k i hd hi hi2 hk
    obtain ⟨k, rfl⟩ : ∃ m, k = m + 2 := ⟨k - 2, by omega⟩
    have h1 : i < x.length := by omega
    simp only [spec_ComparePre.l0, spec_ComparePre.j1, List.length_map]
    rw [if_pos (by omega)]
    by_cases h2 : i < y.length
    · rw [decide_eq_true (by omega : (i : Int) < (y.length : Int)), if_pos rfl, if_pos (by omega), if_pos (by omega), if_pos (by omega), rd_map x i h1, rd_map y i h2]
      have b1 := bx _ (List.getElem_mem h1)
      have b2 := by' _ (List.getElem_mem h2)
      rw [comparePart_f (ofL x[i]) (ofL y[i]) (by rw [size_ofL]; omega) (by rw [size_ofL]; omega) k (by rw [size_ofL, size_ofL]; omega), Option.bind_some, bl_ofL, bl_ofL, List.drop_eq_getElem_cons h1, List.drop_eq_getElem_cons h2, spl]
      by_cases e : specPart x[i] y[i] = 0
      · rw [if_pos e, if_pos e, w64 (by omega) (by omega), show ((i : Int) + 1) = ((i + 1 : Nat) : Int) by omega, ih k (i + 1) (by omega) (by omega) (by omega) (by omega)]
      · rw [if_neg e, if_neg e]
    · rw [decide_eq_false (by omega : ¬ (i : Int) < (y.length : Int)), if_neg (by decide), wrapNat _ (by omega), wrapNat _ (by omega), order_f, spl_drop_out x y i (by omega) hi hi2]
      rfl

theorem comparePre_l0' (x y : List (List UInt8)) {B : Nat} (hx : x.length ≤ B + 1) (hy : y.length ≤ B + 1) (bx : ∀ p ∈ x, p.length ≤ B) (by' : ∀ p ∈ y, p.length ≤ B) (k : Nat) (hk : B ≤ 2147483647 ∧ 4 * B + 6 < k) :
    spec_ComparePre.l0 k (x.map ofL) (y.map ofL) 0 = some (spl x y) := by
  have := comparePre_l0 x y B (by omega) (by omega) (by omega) bx by' x.length k 0 (by omega) (by omega) (by omega) (by omega)
  rw [List.drop_zero, List.drop_zero] at this
  exact this

/-- A good prerelease: none, or a valid one of small numbers. -/
def gPre (l : List UInt8) : Bool := l == [] || (preOk l && smallOk l)

theorem gPre_parts {l : List UInt8} (h : gPre l = true) (hn : l ≠ []) : ∀ p ∈ splitL 46 l, goodP p = true := by
  unfold gPre preOk smallOk at h
  rw [Bool.or_eq_true, beq_iff_eq] at h
  rcases h with h | h
  · exact absurd h hn
  · rw [Bool.and_eq_true, List.all_eq_true, List.all_eq_true] at h
    intro p hp
    have h1 := h.1 p hp
    have h2 := h.2 p hp
    unfold goodP
    rw [h1, Bool.true_and]
    exact h2

theorem cpp_self (a : List UInt8) : cpp a a = 0 := by unfold cpp; rw [if_pos rfl]

theorem cpl_self : ∀ x : List (List UInt8), cpl x x = 0
  | [] => by rw [cpl]
  | a :: x => by rw [cpl, cpp_self, if_pos rfl, cpl_self x]

theorem comparePre_f (a b : ByteArray) (ha : a.size ≤ 2147483647) (hb : b.size ≤ 2147483647) (ga : gPre (bl a) = true) (gb : gPre (bl b) = true) (k : Nat) (hk : 4 * (a.size + b.size) + 10 < k) : spec_ComparePre.f k a b = some (preAny (bl a) (bl b)) := by
  unfold spec_ComparePre.f preAny
  rw [toList_bl, toList_bl]
  by_cases e : bl a = bl b
  · rw [if_pos e, e]
    by_cases q : bl b = []
    · rw [if_pos q, if_pos q]
    · rw [if_neg q, if_neg q, preC, cpl_self]
  · rw [if_neg e]
    by_cases q1 : bl a = []
    · rw [if_pos q1, if_pos q1, if_neg (fun q2 => e (q1.trans q2.symm))]
    · rw [if_neg q1, if_neg q1]
      by_cases q2 : bl b = []
      · rw [if_pos q2, if_pos q2]
      · rw [if_neg q2, if_neg q2, identifiers_f a (by omega) k (by omega), Option.bind_some, identifiers_f b (by omega) k (by omega), Option.bind_some]
        have l1 := splitL_len 46 (bl a)
        have l2 := splitL_len 46 (bl b)
        rw [bl_len] at l1 l2
        have p1 : ∀ p ∈ splitL 46 (bl a), p.length ≤ max a.size b.size := fun p hp => by have := parts_le 46 _ p hp; rw [bl_len] at this; omega
        have p2 : ∀ p ∈ splitL 46 (bl b), p.length ≤ max a.size b.size := fun p hp => by have := parts_le 46 _ p hp; rw [bl_len] at this; omega
        have hh := comparePre_l0' (splitL 46 (bl a)) (splitL 46 (bl b)) (by omega) (by omega) p1 p2 k (by omega)
        rw [hh, spl_eq _ _ (gPre_parts ga q1) (gPre_parts gb q2)]
        rfl

end Go.Proofs.YtllkoadcpobdaaaDoor.KX
namespace Go.Proofs.YtllkoadcpobdaaaDoor.KX

open Go Go.RowKit Go.Lib Go.Proofs Go.Proofs.YtllkoadcpobdaaaDoor.L Go.Proofs.YtllkoadcpobdaaaDoor.Bt Go.Proofs.YtllkoadcpobdaaaDoor.Parse Go.Proofs.YtllkoadcpobdaaaDoor.Part Go.Proofs.YtllkoadcpobdaaaDoor.Num Go.Proofs.YtllkoadcpobdaaaDoor.PX

open Go.Proofs.YtllkoadcpobdaaaDoorW.PrintWords Go.Proofs.YtllkoadcpobdaaaDoorW.PrintLast Go.Proofs.YtllkoadcpobdaaaDoorW.PrintMore

theorem ordI_nat (a b : Nat) : ordI (a : Int) (b : Int) = segC a b := by
  unfold ordI segC
  by_cases h1 : a < b
  · rw [if_pos (by omega), if_pos h1]
  · rw [if_neg (by omega), if_neg h1]
    by_cases h2 : b < a
    · rw [if_pos (by omega), if_pos h2]
    · rw [if_neg (by omega), if_neg h2]

/-- The first n numbers compared. -/
def numC (n : Int) (a b c a' b' c' : Nat) : Int := if 0 < n ∧ segC a a' ≠ 0 then segC a a' else if 1 < n ∧ segC b b' ≠ 0 then segC b b' else if 2 < n ∧ segC c c' ≠ 0 then segC c c' else 0

theorem cmpFrom_nat (n : Int) (a b c a' b' c' : Nat) : cmpFrom n 0 (a : Int) b c a' b' c' = numC n a b c a' b' c' := by
  unfold cmpFrom numC
  rw [ordI_nat, ordI_nat, ordI_nat]
  simp

theorem numbers_f (a b c a' b' c' : Nat) (p m p' m' : ByteArray) (n : Int) : spec_CompareNumbers.f (a : Int) b c p m (a' : Int) b' c' p' m' n = some (numC n a b c a' b' c') := by
  unfold spec_CompareNumbers.f
  rw [cmpFrom_nat]

theorem segC_zero (a b : Nat) : segC a b = 0 ↔ a = b := by
  unfold segC
  split
  · simp; omega
  · split
    · simp; omega
    · simp; omega

theorem verC_numC (v w : Ver) : verC v w = if numC 3 v.ma v.mi v.pa w.ma w.mi w.pa = 0 then preAny (bl v.pre) (bl w.pre) else numC 3 v.ma v.mi v.pa w.ma w.mi w.pa := by
  unfold verC numC
  by_cases h1 : segC v.ma w.ma = 0
  · by_cases h2 : segC v.mi w.mi = 0
    · by_cases h3 : segC v.pa w.pa = 0
      · simp [h1, h2, h3]
      · simp [h1, h2, h3]
    · simp [h1, h2]
  · simp [h1]

theorem compare_f (a b c a' b' c' : Nat) (p m p' m' : ByteArray) (hp : p.size ≤ 2147483647) (hp' : p'.size ≤ 2147483647) (gp : gPre (bl p) = true) (gp' : gPre (bl p') = true) (k : Nat) (hk : 4 * (p.size + p'.size) + 10 < k) :
    spec_Compare.f k (a : Int) b c p m (a' : Int) b' c' p' m' = some (verC (vOf a b c p m) (vOf a' b' c' p' m')) := by
  unfold spec_Compare.f
  rw [numbers_f, Option.bind_some, verC_numC]
  show _ = some (if numC 3 a b c a' b' c' = 0 then _ else numC 3 a b c a' b' c')
  by_cases h : numC 3 a b c a' b' c' = 0
  · rw [if_pos h, if_pos h, comparePre_f p p' hp hp' gp gp' k hk]; rfl
  · rw [if_neg h, if_neg h]

/-- What a good term is. -/
structure GoodT (op gv a b c : Int) (p : List UInt8) : Prop where
  op0 : 0 ≤ op
  op8 : op < 8
  g0 : 0 ≤ gv
  g3 : gv ≤ 3
  pa : gv < 3 → c = 0
  pr : gv < 3 → p = []
  mi : gv < 2 → b = 0
  ma : gv < 1 → a = 0
  gp : gPre p = true
  wild : gv = 0 → op = 0 ∨ op = 4 ∨ op = 6
  zero : gv = 3 → op = 6 → a = 0 → b = 0 → c ≠ 0

theorem gt_j3 (k : Nat) (fl : Bool) (op gv a b c : Int) (p : ByteArray) (hp : p.size ≤ 2147483647) (hk : 2 * p.size + 10 ≤ k) :
    ∃ r, spec_GoodTerm.j3 (k + 1) fl op gv a b c p = some r ∧ (r = true → fl = false ∧ gPre (bl p) = true) := by
  simp only [spec_GoodTerm.j3]
  cases fl with
  | true => exact ⟨false, rfl, by simp⟩
  | false =>
    rw [if_neg (by decide), toList_bl]
    unfold gPre
    by_cases h : bl p = []
    · rw [if_pos h, h]; exact ⟨true, rfl, fun _ => ⟨rfl, rfl⟩⟩
    · rw [if_neg h, validPre_f p (by omega) k (by omega), Option.bind_some]
      cases h1 : preOk (bl p)
      · exact ⟨false, rfl, by simp⟩
      · rw [if_pos rfl, smallPre_f p (by omega) k (by omega), Option.bind_some]
        exact ⟨_, rfl, fun e => ⟨rfl, by rw [e]; simp⟩⟩

theorem gt_j2 (k : Nat) (fl : Bool) (op gv a b c : Int) (p : ByteArray) (hp : p.size ≤ 2147483647) (hk : 2 * p.size + 10 ≤ k) :
    ∃ r, spec_GoodTerm.j2 (k + 2) fl op gv a b c p = some r ∧ (r = true → fl = false ∧ (gv < 3 → c = 0) ∧ (gv < 3 → bl p = []) ∧ (gv < 2 → b = 0) ∧ (gv < 1 → a = 0) ∧ gPre (bl p) = true) := by
  simp only [spec_GoodTerm.j2]
  cases fl with
  | true => exact ⟨false, rfl, by simp⟩
  | false =>
    rw [if_neg (by decide), toList_bl]
    repeat' split
    all_goals
      refine (gt_j3 k _ op gv a b c p hp hk).imp (fun r hr => ⟨hr.1, fun e => ?_⟩)
      obtain ⟨h1, h2⟩ := hr.2 e
      try rw [bne_eq_false_iff_eq] at h1
      first
        | exact absurd h1 (by decide)
        | exact ⟨rfl, by omega, (fun _ => by first | assumption | omega), by omega, by omega, h2⟩

theorem gt_j1 (k : Nat) (fl : Bool) (op gv a b c : Int) (p : ByteArray) (hp : p.size ≤ 2147483647) (hk : 2 * p.size + 10 ≤ k) :
    ∃ r, spec_GoodTerm.j1 (k + 3) fl op gv a b c p = some r ∧ (r = true → fl = false ∧ 0 ≤ op ∧ op < 8 ∧ 0 ≤ gv ∧ gv ≤ 3 ∧ (gv < 3 → c = 0) ∧ (gv < 3 → bl p = []) ∧ (gv < 2 → b = 0) ∧ (gv < 1 → a = 0) ∧ gPre (bl p) = true) := by
  simp only [spec_GoodTerm.j1]
  cases fl with
  | true => exact ⟨false, rfl, by simp⟩
  | false =>
    rw [if_neg (by decide)]
    repeat' split
    all_goals
      refine (gt_j2 k _ op gv a b c p hp hk).imp (fun r hr => ⟨hr.1, fun e => ?_⟩)
      obtain ⟨h1, h2⟩ := hr.2 e
      try rw [decide_eq_false_iff_not] at h1
      first
        | exact absurd h1 (by decide)
        | exact ⟨rfl, by omega, by omega, by omega, by omega, h2⟩

theorem gt_j0 (k : Nat) (fl : Bool) (op gv a b c : Int) (p : ByteArray) (hp : p.size ≤ 2147483647) (hk : 2 * p.size + 10 ≤ k) :
    ∃ r, spec_GoodTerm.j0 (k + 4) fl op gv a b c p = some r ∧ (r = true → (gv = 0 → op = 0 ∨ op = 4 ∨ op = 6) ∧ (gv = 3 → op = 6 → fl = false) ∧ 0 ≤ op ∧ op < 8 ∧ 0 ≤ gv ∧ gv ≤ 3 ∧ (gv < 3 → c = 0) ∧ (gv < 3 → bl p = []) ∧ (gv < 2 → b = 0) ∧ (gv < 1 → a = 0) ∧ gPre (bl p) = true) := by
  simp only [spec_GoodTerm.j0]
  repeat' split
  all_goals
    refine (gt_j1 k _ op gv a b c p hp hk).imp (fun r hr => ⟨hr.1, fun e => ?_⟩)
    obtain ⟨h1, h2⟩ := hr.2 e
    first
      | exact absurd h1 (by decide)
      | exact ⟨by omega, fun _ _ => by first | assumption | omega, h2⟩

theorem goodTerm_f (k : Nat) (op gv a b c : Int) (p : ByteArray) (hp : p.size ≤ 2147483647) (hk : 2 * p.size + 14 ≤ k) :
    ∃ r, spec_GoodTerm.f k op gv a b c p = some r ∧ (r = true → GoodT op gv a b c (bl p)) := by
  obtain ⟨k, rfl⟩ : ∃ m, k = m + 4 := ⟨k - 4, by omega⟩
  unfold spec_GoodTerm.f
  repeat' split
  all_goals
    refine (gt_j0 k _ op gv a b c p hp (by omega)).imp (fun r hr => ⟨hr.1, fun e => ?_⟩)
    obtain ⟨h1, h2, h3, h4, h5, h6, h7, h8, h9, h10, h11⟩ := hr.2 e
    refine ⟨h3, h4, h5, h6, h7, h8, h9, h10, h11, h1, fun e1 e2 e3 e4 => ?_⟩
    have := h2 e1 e2
    first
      | exact beq_eq_false_iff_ne.1 this
      | (exfalso; omega)

end Go.Proofs.YtllkoadcpobdaaaDoor.KX
