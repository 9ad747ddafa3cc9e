/- The row and the tied card of FnSemverKindOfNext, out of its printed walk and its plain law. For every input that the statement lets in. -/
import Derived.Test.YtnncjgoogjookaaDoorZCardSemverKindOfNext1
import Derived.Test.YtnncjgoogjookaaDoorZCardSemverKindOfNext7
import Derived.Test.YtnncjgoogjookaaDoorZCardSemverKindOfNext8
import Derived.Test.YtnncjgoogjookaaDoorZCardSemverKindOfNext9
import Derived.Test.YtnncjgoogjookaaDoorZCardSemverKindOfNext10
import Derived.Test.YtnncjgoogjookaaDoorZCardSemverKindOfNext17
import Derived.Test.YtnncjgoogjookaaDoorZCardSemverKindOfNext18
import Derived.Test.YtnncjgoogjookaaDoorZCardSemverKindOfNext19
import Derived.Test.YtnncjgoogjookaaDoorZCardSemverKindOfNext20
import Derived.Test.YtnncjgoogjookaaDoorZCardSemverKindOfNext21
import Derived.Deep.DeepCutAuto
namespace Go.Proofs.YtnncjgoogjookaaDoor.Ascii
end Go.Proofs.YtnncjgoogjookaaDoor.Ascii
namespace Go.Proofs.YtnncjgoogjookaaDoor.Base
end Go.Proofs.YtnncjgoogjookaaDoor.Base
namespace Go.Proofs.YtnncjgoogjookaaDoor.Bt
end Go.Proofs.YtnncjgoogjookaaDoor.Bt
namespace Go.Proofs.YtnncjgoogjookaaDoor.KX
end Go.Proofs.YtnncjgoogjookaaDoor.KX
namespace Go.Proofs.YtnncjgoogjookaaDoor.L
end Go.Proofs.YtnncjgoogjookaaDoor.L
namespace Go.Proofs.YtnncjgoogjookaaDoor.MetaX
end Go.Proofs.YtnncjgoogjookaaDoor.MetaX
namespace Go.Proofs.YtnncjgoogjookaaDoor.Num
end Go.Proofs.YtnncjgoogjookaaDoor.Num
namespace Go.Proofs.YtnncjgoogjookaaDoor.PX
end Go.Proofs.YtnncjgoogjookaaDoor.PX
namespace Go.Proofs.YtnncjgoogjookaaDoor.Parse
end Go.Proofs.YtnncjgoogjookaaDoor.Parse
namespace Go.Proofs.YtnncjgoogjookaaDoor.Rx
end Go.Proofs.YtnncjgoogjookaaDoor.Rx
namespace Go.Proofs.YtnncjgoogjookaaDoor.Rxw
end Go.Proofs.YtnncjgoogjookaaDoor.Rxw
namespace Go.Proofs.YtnncjgoogjookaaDoor.SemC
end Go.Proofs.YtnncjgoogjookaaDoor.SemC
namespace Go.Proofs.YtnncjgoogjookaaDoor.Rxw

open Go Go.RowKit Go.Lib Go.Proofs Go.Proofs.YtnncjgoogjookaaDoor Go.Proofs.YtnncjgoogjookaaDoor.Base Go.Proofs.YtnncjgoogjookaaDoor.L Go.Proofs.YtnncjgoogjookaaDoor.Parse Go.Proofs.YtnncjgoogjookaaDoor.PX Go.Proofs.YtnncjgoogjookaaDoor.SemC

open Go.Proofs.YtnncjgoogjookaaDoorW.PrintWords Go.Proofs.YtnncjgoogjookaaDoorW.PrintLast Go.Proofs.YtnncjgoogjookaaDoorW.PrintMore

theorem drawn_below {w w' : World} (h : Drawn0 w w') : Below w.heap.size w w' := by
  obtain ⟨n, rfl⟩ := h
  exact dN (Below.refl _ _) n

def NewVer (a b c : Nat) (p m o : ByteArray) (w : World) (e : Ending) (w' : World) : Prop := ∃ g, e = .returned (.tuple #[.pointer (some ⟨g, 0, none⟩), .nilIface]) ∧ Row w' g 43 [.int .u64 (a : Int), .int .u64 (b : Int), .int .u64 (c : Int), .string p, .string m, .string o] ∧ w.heap.size ≤ g ∧ Below w.heap.size w w'

end Go.Proofs.YtnncjgoogjookaaDoor.Rxw
namespace Go.Proofs.YtnncjgoogjookaaDoor.Rxw

open Go Go.RowKit Go.Lib Go.Sort Go.Proofs Go.Proofs.YtnncjgoogjookaaDoor Go.Proofs.YtnncjgoogjookaaDoor.Base Go.Proofs.YtnncjgoogjookaaDoor.Rx Go.Proofs.YtnncjgoogjookaaDoor.L Go.Proofs.YtnncjgoogjookaaDoor.Parse Go.Proofs.YtnncjgoogjookaaDoor.PX Go.Proofs.YtnncjgoogjookaaDoor.KX Go.Proofs.YtnncjgoogjookaaDoor.MetaX Go.Proofs.YtnncjgoogjookaaDoor.SemC

open Go.Proofs.YtnncjgoogjookaaDoorW.PrintWords Go.Proofs.YtnncjgoogjookaaDoorW.PrintLast Go.Proofs.YtnncjgoogjookaaDoorW.PrintMore

open Go.Proofs.YtnncjgoogjookaaDoor.Bt (toList_bl)

open Go.Proofs.YtnncjgoogjookaaDoor.Ascii (only)

/-- The blocks of the errors: 0 to 6 of a strict reading, 7 and 8 of a number, 9 and 10 of a constraint. -/
def errG : Nat → Nat
  | 0 => 0
  | 1 => 1
  | 2 => 2
  | 3 => 3
  | 4 => 4
  | 5 => 6
  | 6 => 5
  | 7 => 9
  | 8 => 10
  | 9 => 7
  | _ => 8

/-- The package's errors lie there as these values. -/
structure Errs (te : Nat → TypeId) (pe : Nat → Value) (w : World) : Prop where
  c : ∀ k, w.cell? ⟨errG k, 0, none⟩ = some (.iface (te k) (pe k))
  lt : ∀ k, errG k < w.heap.size

theorem Errs.below {te pe} {w w' : World} (h : Errs te pe w) (hb : Below w.heap.size w w') : Errs te pe w' := ⟨fun k => (hb.cell (p := ⟨errG k, 0, none⟩) (h.lt k)).trans (h.c k), fun k => Nat.lt_of_lt_of_le (h.lt k) hb.size⟩

theorem Errs.sem {te pe} {w : World} (h : Errs te pe w) : Sem w := ⟨⟨_, _, h.c 6⟩, h.lt 6, ⟨_, _, h.c 4⟩, h.lt 4, ⟨_, _, h.c 5⟩, h.lt 5⟩

def cutF (c : UInt8) (l : List UInt8) : List UInt8 × List UInt8 × Bool := match fst c l with
  | none => (l, [], false)
  | some j => (l.take j, l.drop (j + 1), true)

def leadL (p : List UInt8) : Bool := decide (1 < p.length) && (p.headD 0 == 48)

def partK (p : List UInt8) : Nat := if p.all isDig = false then 3 else if leadL p = true then 4 else 8

def preCode (p : List UInt8) : Nat := if preErr ((splitL 46 p).map ofL) = 1 then 6 else 4

abbrev VerX := Except Nat (Nat × Nat × Nat × List UInt8 × List UInt8)

def parseK (a b c p m : List UInt8) : VerX := match num a with
  | none => .error 7
  | some x => match num b with
    | none => .error 7
    | some y => match num c with
      | none => .error 7
      | some z => .ok (x, y, z, p, m)

def numK (a b c p m : List UInt8) : VerX := if partK a ≠ 8 then .error (partK a) else if partK b ≠ 8 then .error (partK b) else if partK c ≠ 8 then .error (partK c) else parseK a b c p m

def preK (a b m : List UInt8) (x : List UInt8 × List UInt8 × Bool) : VerX := if x.2.2 = true ∧ preOk x.2.1 = false then .error (preCode x.2.1) else numK a b x.1 x.2.1 m

def tailK (a b : List UInt8) (x : List UInt8 × List UInt8 × Bool) : VerX := if x.2.2 = true ∧ metaOk x.2.1 = false then .error 5 else preK a b x.2.1 (cutF 45 x.1)

def partsK : List (List UInt8) → VerX
  | [a, b, c] => tailK a b (cutF 43 c)
  | _ => .error 2

/-- What a text is, read strictly: a version, or what is wrong with it. -/
def strictL (l : List UInt8) : VerX := if l = [] then .error 0 else if 256 < l.length then .error 1 else partsK (splitNL 46 2 l)

/-- The error of a number: a *strconv.NumError in a new block, which holds one of the two. -/
def NumE (te : Nat → TypeId) (pe : Nat → Value) (B : Nat) (w : World) (t : TypeId) (y : Value) : Prop := t = 66 ∧ ∃ N q u k, B ≤ N ∧ y = .pointer (some ⟨N, 0, none⟩) ∧ w.heap[N]? = some (.cells #[.string q, .string u, .iface (te k) (pe k)] 82 (0, 0)) ∧ (k = 7 ∨ k = 8)

theorem NumE.set {te pe B} {w : World} {t : TypeId} {y : Value} (h : NumE te pe B w t y) {g : Nat} (hg : g < B) (i : Nat) (v : Value) (B' : Nat) (hB : B' ≤ B) : NumE te pe B' (w.setCell ⟨g, i, none⟩ v) t y := by
  obtain ⟨ht, N, q, u, k, hN, hy, hc, hk⟩ := h
  exact ⟨ht, N, q, u, k, Nat.le_trans hB hN, hy, (Below.heap_setCell w ⟨g, i, none⟩ v N (by show N ≠ g; omega)).trans hc, hk⟩

theorem parse_errN {te pe} (s : ByteArray) (hs : s.size ≤ 2147483647) (h : num s.data.toList = none) (w : World) (hE : Errs te pe w) :
    Calls Tryd.prog 21 #[.string s, .int .i64 10, .int .i64 64] w fun e w' => ∃ (x : Int) (t : TypeId) (p : Value), e = .returned (.tuple #[.int .u64 x, .iface t p]) ∧ Below w.heap.size w w' ∧ NumE te pe w.heap.size w' t p := by
  rcases hq : Lib.parseUintB 64 s.data.toList with u | _ | _
  · simp [num, hq] at h
  · refine (Any.strconv_ParseUint_10_at64_syntax Tryd.laysPu14 s (by omega) hq _ w (hE.c 7) (.inr ⟨_, _, rfl⟩)).mono ?_
    rintro e w' ⟨N, rfl, hN, hc, hb⟩
    exact ⟨_, _, _, rfl, hb, rfl, N, _, _, 7, hN, rfl, hc, .inl rfl⟩
  · refine (Any.strconv_ParseUint_10_at64_range Tryd.laysPu14 s (by omega) hq _ w (hE.c 8) (.inr ⟨_, _, rfl⟩)).mono ?_
    rintro e w' ⟨N, rfl, hN, hc, hb⟩
    exact ⟨_, _, _, rfl, hb, rfl, N, _, _, 8, hN, rfl, hc, .inr rfl⟩

def StrictR (te : Nat → TypeId) (pe : Nat → Value) (s : ByteArray) (w : World) (r : VerX) (e : Ending) (w' : World) : Prop := match r with
  | .ok (a, b, c, p, m) => NewVer a b c (ofL p) (ofL m) s w e w'
  | .error k => ∃ t y, e = .returned (.tuple #[.pointer none, .iface t y]) ∧ (k < 7 → t = te k ∧ y = pe k) ∧ (k = 7 → NumE te pe w.heap.size w' t y) ∧ Below w.heap.size w w'

theorem StrictR.err {te : Nat → TypeId} {pe : Nat → Value} {s : ByteArray} {w w' : World} {r : VerX} (k : Nat) (h : r = .error k) (hb : Below w.heap.size w w') (hk : k ≠ 7 := by decide) : StrictR te pe s w r (.returned (.tuple #[.pointer none, .iface (te k) (pe k)])) w' := by
  subst h
  exact ⟨_, _, rfl, fun _ => ⟨rfl, rfl⟩, fun e => absurd e hk, hb⟩

theorem StrictR.oth {te : Nat → TypeId} {pe : Nat → Value} {s : ByteArray} {w w' : World} {r : VerX} {t : TypeId} {y : Value} (h : r = .error 7) (hb : Below w.heap.size w w') (hn : NumE te pe w.heap.size w' t y) : StrictR te pe s w r (.returned (.tuple #[.pointer none, .iface t y])) w' := by
  subst h
  exact ⟨_, _, rfl, fun h => absurd h (by decide), fun _ => hn, hb⟩

theorem StrictR.good {te : Nat → TypeId} {pe : Nat → Value} {s : ByteArray} {w w' : World} {r : VerX} {a b c g : Nat} {p m : List UInt8} (h : r = .ok (a, b, c, p, m)) (hv : Row w' g 43 [.int .u64 (a : Int), .int .u64 (b : Int), .int .u64 (c : Int), .string (ofL p), .string (ofL m), .string s]) (hg : w.heap.size ≤ g) (hb : Below w.heap.size w w') : StrictR te pe s w r (.returned (.tuple #[.pointer (some ⟨g, 0, none⟩), .nilIface])) w' := by
  subst h
  exact ⟨g, rfl, hv, hg, hb⟩

theorem box_of_own {w : World} {B n : Nat} {e : TypeId} {v : Value} {xs : List Value} (h : w.ownsRow B e 1 v n xs) (hn : 0 < n) : ∃ g c, v = .slice (some ⟨g, 0, none⟩) n c ∧ B ≤ g ∧ Box w g xs := by
  have hc := fun g (hg : v.ownBlock = some g) => h.cells hg
  rcases h.2 with ⟨rfl, h0⟩ | ⟨g, cap, cur, rfl, h1, h2, h3⟩
  · omega
  · refine ⟨g, cap, rfl, h1, ⟨fun j u hu => ?_, fun j => ?_, (Array.getElem?_eq_some_iff.1 h2).1⟩⟩
    · have := hc g rfl j u hu
      have e : (⟨g, 0, none⟩ : Addr).add j = ⟨g, j, none⟩ := by
        unfold Addr.add
        split
        · rename_i h0; subst h0; rfl
        · simp
      rwa [e] at this
    · simp [World.frozen?, h2]

/-- In the middle: the parts and the version. -/
structure Sm (w : World) (gp g : Nat) (ps vs : List Value) (wx : World) : Prop where
  p : Box wx gp ps
  v : Row wx g 43 vs
  ne : gp ≠ g
  bel : Below w.heap.size w wx
  lp : w.heap.size ≤ gp
  lg : w.heap.size ≤ g

theorem Sm.below {w wx wy : World} {gp g : Nat} {ps vs : List Value} (h : Sm w gp g ps vs wx) (hb : Below wx.heap.size wx wy) : Sm w gp g ps vs wy := ⟨h.p.below hb, h.v.below hb, h.ne, h.bel.trans (hb.mono h.bel.size), h.lp, h.lg⟩

theorem Sm.setV {w wx : World} {gp g : Nat} {ps vs : List Value} (h : Sm w gp g ps vs wx) (i : Nat) (hi : i < vs.length) (y : Value) : Sm w gp g ps (vs.set i y) (wx.setCell ⟨g, i, none⟩ y) :=
  ⟨h.p.far _ (Ne.symm h.ne) _, h.v.set i hi y, h.ne, h.bel.setCell h.lg _, h.lp, h.lg⟩

theorem Sm.setP {w wx : World} {gp g : Nat} {ps vs : List Value} (h : Sm w gp g ps vs wx) (i : Nat) (hi : i < ps.length) (y : Value) : Sm w gp g (ps.set i y) vs (wx.setCell ⟨gp, i, none⟩ y) :=
  ⟨h.p.set i hi y, h.v.far _ (Ne.symm h.ne) _, h.ne, h.bel.setCell h.lp _, h.lp, h.lg⟩

theorem splitNL_le (c : UInt8) : ∀ m l, (splitNL c m l).length ≤ m + 1 ∧ 0 < (splitNL c m l).length
  | 0, l => ⟨Nat.le_refl _, Nat.one_pos⟩
  | m + 1, l => by
    unfold splitNL
    cases fst c l with
    | none => exact ⟨by simp, Nat.one_pos⟩
    | some j => have := splitNL_le c m (l.drop (j + 1)); exact ⟨by simp; omega, by simp⟩

theorem cutF_none {c : UInt8} {l x y : List UInt8} (h : cutF c l = (x, y, false)) : x = l ∧ y = [] ∧ (fst c l).isSome = false := by
  unfold cutF at h
  cases e : fst c l with
  | none => rw [e] at h; cases h; exact ⟨rfl, rfl, rfl⟩
  | some j => rw [e] at h; cases h

theorem cutF_some {c : UInt8} {l x y : List UInt8} (h : cutF c l = (x, y, true)) : splitNL c 1 l = [x, y] ∧ (fst c l).isSome = true ∧ x.length + y.length < l.length := by
  unfold cutF at h
  cases e : fst c l with
  | none => rw [e] at h; cases h
  | some j =>
    rw [e] at h
    cases h
    have := (fst_some c l j e).1
    refine ⟨?_, rfl, by rw [List.length_take, List.length_drop]; omega⟩
    unfold splitNL
    rw [e]
    rfl

theorem ps_at (a b c : List UInt8) (k : Nat) (h : k < 3) : ([.string (ofL a), .string (ofL b), .string (ofL c)] : List Value)[k]? = some (.string (ofL ([a, b, c].getD k []))) := by
  have : k = 0 ∨ k = 1 ∨ k = 2 := by omega
  rcases this with rfl | rfl | rfl <;> rfl

theorem numK_bad (a b c p m : List UInt8) (k : Nat) (h : k < 3) (hg : ∀ j, j < k → partK ([a, b, c].getD j []) = 8) (hb : partK ([a, b, c].getD k []) ≠ 8) : numK a b c p m = .error (partK ([a, b, c].getD k [])) := by
  have : k = 0 ∨ k = 1 ∨ k = 2 := by omega
  unfold numK
  rcases this with rfl | rfl | rfl
  · exact if_pos hb
  · rw [if_neg (fun h => h (hg 0 (by decide)))]; exact if_pos hb
  · rw [if_neg (fun h => h (hg 0 (by decide))), if_neg (fun h => h (hg 1 (by decide)))]; exact if_pos hb

theorem splitNL_mem (c : UInt8) : ∀ m l p, p ∈ splitNL c m l → p.length ≤ l.length
  | 0, l, p, h => by simp [splitNL] at h; subst h; exact Nat.le_refl _
  | m + 1, l, p, h => by
    unfold splitNL at h
    cases e : fst c l with
    | none => rw [e] at h; simp at h; subst h; exact Nat.le_refl _
    | some j =>
      rw [e] at h
      rcases List.mem_cons.1 h with h | h
      · subst h; rw [List.length_take]; omega
      · have := splitNL_mem c m _ p h; rw [List.length_drop] at this; omega

theorem partsK_no {P : List (List UInt8)} (h : P.length ≠ 3) : partsK P = .error 2 := by
  unfold partsK
  split
  · exact absurd rfl h
  · rfl

set_option maxHeartbeats 16000000 in
set_option maxRecDepth 100000 in
theorem strictW (s : ByteArray) (hs : s.size ≤ 2147483647) (te : Nat → TypeId) (pe : Nat → Value) (w : World) (hE : Errs te pe w) (hStd : Std w) :
  Calls Tryd.prog 7 #[.string s] w (StrictR te pe s w (strictL (bl s))) := by
 obtain ⟨R, hR⟩ : ∃ R, R = strictL (bl s) := ⟨_, rfl⟩
 rw [← hR]
 have HE := Lib.hid hE; have HS := Lib.hid hStd
 have hlen : (bl s).length = s.size := bl_len s
 unfold strictL at hR
 by_cases h0 : s.size = 0
 ·
  have e0 : ((s.size : Int) == 0) = true := by rw [h0]; rfl
  have HV : Hid (R = .error 0) := Lib.hid (by rw [hR, if_pos (List.eq_nil_of_length_eq_zero (by omega))])
  have c0 : w.cell? ⟨0, 0, none⟩ = some (.iface (te 0) (pe 0)) := hE.c 0
  clear hR hs hStd hE hlen h0
  go_enter Tryd.func7, Tryd.ntmps7
  go_wp2_with fail
  go_region
  go_wp2_with fail
  go_ret2
  exact StrictR.err 0 HV.out (by repeat (first | exact Below.refl _ _ | apply Below.drew))
 have e0 : ((s.size : Int) == 0) = false := beq_eq_false_iff_ne.2 (by omega)
 rw [if_neg (fun e => h0 (by rw [← hlen, e]; rfl))] at hR
 clear h0
 by_cases h1 : 256 < s.size
 ·
  have d1 : decide (256 < (s.size : Int)) = true := decide_eq_true (by omega)
  have HV : Hid (R = .error 1) := Lib.hid (by rw [hR, if_pos (by omega)])
  have c0 : w.cell? ⟨1, 0, none⟩ = some (.iface (te 1) (pe 1)) := hE.c 1
  clear hR hs hStd hE hlen h1
  go_enter Tryd.func7, Tryd.ntmps7
  go_wp2_with fail
  go_region
  go_wp2_with fail
  go_ret2
  exact StrictR.err 1 HV.out (by repeat (first | exact Below.refl _ _ | apply Below.drew))
 have d1 : decide (256 < (s.size : Int)) = false := decide_eq_false (by omega)
 rw [if_neg (by omega)] at hR
 have CS := Lib.hid fun W => semver_zzSplitN.calls (s.size + 4) s ⟨#[46]⟩ 3 _ W (zzSplitN_f s 46 2 (by decide) hs _ (by omega))
 have hpl := splitNL_le 46 2 (bl s)
 have hpz : ∀ p ∈ splitNL 46 2 (bl s), p.length ≤ 256 := fun p hp => by have := splitNL_mem 46 2 (bl s) p hp; omega
 generalize splitNL 46 2 (bl s) = P at *
 by_cases h3 : P.length = 3
 ·
  have t3 : (((P.map ofL).length : Int) != 3) = false := by rw [List.length_map, h3]; rfl
  obtain ⟨a, b, c, rfl⟩ : ∃ a b c, P = [a, b, c] := by
   match P, h3 with
   | [a, b, c], _ => exact ⟨a, b, c, rfl⟩
  have ha := hpz a (by simp); have hb := hpz b (by simp); have hc := hpz c (by simp)
  have HR : Hid (R = tailK a b (cutF 43 c)) := Lib.hid hR
  have HA := Lib.hid ha; have HB := Lib.hid hb; have HC := Lib.hid hc
  clear hR hpz hpl h3 ha hb hc hs hlen h1 hE hStd
  go_enter Tryd.func7, Tryd.ntmps7
  go_upto_region 8 with (go_at_call 16; (with_reducible refine (CS.out _).mono ?_); rintro e w1 ⟨v1, rfl, ho1, hb1⟩; obtain ⟨gp, cp, e1, hgp, hbx⟩ := box_of_own (Kd.own_of_R ho1) (by simp); subst e1; have HP1 := Lib.hid hbx; have HG1 := Lib.hid hgp; have HB1 := Lib.hid hb1; clear ho1 hb1 hbx hgp)
  have hp1 : Box w1 gp [.string (ofL a), .string (ofL b), .string (ofL c)] := HP1.out
  go_upto_region 9 with fail
  have hM2 : Sm w gp w1.heap.size [.string (ofL a), .string (ofL b), .string (ofL c)] [.int .u64 0, .int .u64 0, .int .u64 0, .string ⟨#[]⟩, .string ⟨#[]⟩, .string s] (w1.alloc (.cells #[.int .u64 0, .int .u64 0, .int .u64 0, .string ⟨#[]⟩, .string ⟨#[]⟩, .string s] 43)) :=
   ⟨hp1.below ((Below.refl _ w1).alloc (Nat.le_refl _) _), Row.new w1 _ _, Nat.ne_of_lt hp1.lt, HB1.out.alloc HB1.out.size _, HG1.out, HB1.out.size⟩
  generalize World.alloc w1 _ = w2 at *
  generalize w1.heap.size = g at *
  have M2 := Lib.hid hM2
  clear hM2 hp1 HP1 HG1 HB1 CS
  have x2 := M2.out.p.cell 2 _ rfl
  obtain ⟨c1, m, fm, hcut⟩ : ∃ x y z, cutF 43 c = (x, y, z) := ⟨_, _, _, rfl⟩
  have hflag : (fst 43 c).isSome = fm := by cases fm; exact (cutF_none hcut).2.2; exact (cutF_some hcut).2.1
  have hzl : c1.length ≤ 256 ∧ m.length ≤ 256 := by
   have := HC.out
   cases fm
   ·
    obtain ⟨h1, h2, _⟩ := cutF_none hcut; rw [h1, h2]; simp; omega
   ·
    have := (cutF_some hcut).2.2; omega
  have CC := Lib.hid fun W => semver_zzContains.calls 1000 (ofL c) ⟨#[43]⟩ fm W (by rw [show (⟨#[43]⟩ : ByteArray) = ofL [43] from rfl, zzContains_f (ofL c) 43 (by rw [size_ofL]; have := HC.out; omega) 1000 (by rw [size_ofL]; have := HC.out; omega), bl_ofL, hflag])
  have HCUT := Lib.hid hcut; have HZL := Lib.hid hzl
  have HRX : Hid (R = tailK a b (c1, m, fm)) := Lib.hid (by rw [HR.out, hcut])
  clear hflag hzl hcut
  go_upto_if 33 with (go_at_call 17; (with_reducible refine (CC.out _).mono ?_); rintro e wn ⟨rfl, hbn⟩; have Mn := Lib.hid (M2.out.below (drawn_below hbn)); clear hbn)
  go_cut [] (fun wx => Hid (Sm w gp g [.string (ofL a), .string (ofL b), .string (ofL c1)] [.int .u64 0, .int .u64 0, .int .u64 0, .string ⟨#[]⟩, .string (ofL m), .string s] wx) ∧ Hid (¬ (fm = true ∧ metaOk m = false)))
  case first =>
   cases fm with
   | false =>
    obtain ⟨h1, h2, _⟩ := cutF_none HCUT.out
    subst h1 h2
    go_wp2_with fail
    go_meet
    exact ⟨Mn, Lib.hid (fun h => by cases h.1)⟩
   | true =>
    obtain ⟨h1, _, _⟩ := cutF_some HCUT.out
    have CX := Lib.hid fun W => semver_zzSplitN.calls 1000 (ofL c) ⟨#[43]⟩ 2 [ofL c1, ofL m] W (by have := zzSplitN_f (ofL c) 43 1 (by decide) (by rw [size_ofL]; have := HC.out; omega) 1000 (by rw [size_ofL]; have := HC.out; omega); rw [bl_ofL, h1] at this; exact this)
    clear h1
    have y2 := Mn.out.p.cell 2 _ rfl
    cases hok : metaOk m with
    | true =>
     have CM := Lib.hid fun W (hW : Below w.heap.size w W) => met_ok (ofL m) (by rw [size_ofL]; have := HZL.out; omega) (by rw [bl_ofL]; exact hok) W (HE.out.below hW).sem
     have HOK := Lib.hid hok
     clear hok
     go_wp2_with (first
      | (go_at_call 16; (with_reducible refine (CX.out _).mono ?_); rintro e wx ⟨vx, rfl, hox, hbx⟩; obtain ⟨gx, cx, ex, hgx, hbxx⟩ := box_of_own (Kd.own_of_R hox) (by simp); subst ex; have hMx := Mn.out.below hbx; have z0 := hbxx.cell 0 (.string (ofL c1)) rfl; have z1 := hbxx.cell 1 (.string (ofL m)) rfl; have v4 := hMx.v.cell 4 _ rfl; have f4 := hMx.v.free 4; have p2 := hMx.p.cell 2 _ rfl; have q2 := hMx.p.free 2; have Mx := Lib.hid hMx; clear hox hbx hbxx hMx hgx)
      | (go_at_call 18; (with_reducible refine (CM.out _ ?c7).mono ?_); (case c7 => exact ((Mx.out.setV 4 (by simp) (.string (ofL m))).setP 2 (by simp) (.string (ofL c1))).bel); rintro e wy ⟨rfl, hby⟩; have My := Lib.hid (((Mx.out.setV 4 (by simp) (.string (ofL m))).setP 2 (by simp) (.string (ofL c1))).below hby); clear hby))
     go_meet
     exact ⟨My, Lib.hid (fun h => by rw [HOK.out] at h; cases h.2)⟩
    | false =>
     have CM : Hid (∀ W, Below w.heap.size w W → Calls Tryd.prog 18 #[.string (ofL m)] W fun e w' => e = .returned (.iface (te 5) (pe 5)) ∧ Below W.heap.size W w') := Lib.hid fun W hW => by
      have := validateMetadata_l (ofL m) (by rw [size_ofL]; have := HZL.out; omega) (te 5) (pe 5) W ((HE.out.below hW).c 5) ((HE.out.below hW).lt 5)
      rw [bl_ofL, hok] at this
      exact this
     have HV : Hid (R = .error 5) := Lib.hid (by rw [HRX.out]; exact if_pos ⟨rfl, hok⟩)
     clear hok
     go_wp2_with (first
      | (go_at_call 16; (with_reducible refine (CX.out _).mono ?_); rintro e wx ⟨vx, rfl, hox, hbx⟩; obtain ⟨gx, cx, ex, hgx, hbxx⟩ := box_of_own (Kd.own_of_R hox) (by simp); subst ex; have hMx := Mn.out.below hbx; have z0 := hbxx.cell 0 (.string (ofL c1)) rfl; have z1 := hbxx.cell 1 (.string (ofL m)) rfl; have v4 := hMx.v.cell 4 _ rfl; have f4 := hMx.v.free 4; have p2 := hMx.p.cell 2 _ rfl; have q2 := hMx.p.free 2; have Mx := Lib.hid hMx; clear hox hbx hbxx hMx hgx)
      | (go_at_call 18; (with_reducible refine (CM.out _ ?c7).mono ?_); (case c7 => exact ((Mx.out.setV 4 (by simp) (.string (ofL m))).setP 2 (by simp) (.string (ofL c1))).bel); rintro e wy ⟨rfl, hby⟩; have My := Lib.hid (((Mx.out.setV 4 (by simp) (.string (ofL m))).setP 2 (by simp) (.string (ofL c1))).below hby); clear hby))
     go_ret2
     exact StrictR.err _ HV.out My.out.bel
  obtain ⟨M3, hno⟩ := hcut
  have HR3 : Hid (R = preK a b m (cutF 45 c1)) := Lib.hid (by rw [HRX.out]; exact if_neg hno.out)
  have HC := Lib.hid HZL.out.1
  clear M2 HRX hno HR HCUT CC
  have HZM := HZL
  clear HZL
  have x2 := M3.out.p.cell 2 _ rfl
  obtain ⟨c2, p, fp, hcut⟩ : ∃ x y z, cutF 45 c1 = (x, y, z) := ⟨_, _, _, rfl⟩
  have hflag : (fst 45 c1).isSome = fp := by cases fp; exact (cutF_none hcut).2.2; exact (cutF_some hcut).2.1
  have hzl : c2.length ≤ 256 ∧ p.length ≤ 256 := by
   have := HC.out
   cases fp
   ·
    obtain ⟨h1, h2, _⟩ := cutF_none hcut; rw [h1, h2]; simp; omega
   ·
    have := (cutF_some hcut).2.2; omega
  have CC := Lib.hid fun W => semver_zzContains.calls 1000 (ofL c1) ⟨#[45]⟩ fp W (by rw [show (⟨#[45]⟩ : ByteArray) = ofL [45] from rfl, zzContains_f (ofL c1) 45 (by rw [size_ofL]; have := HC.out; omega) 1000 (by rw [size_ofL]; have := HC.out; omega), bl_ofL, hflag])
  have HCUT := Lib.hid hcut; have HZL := Lib.hid hzl
  have HRX : Hid (R = preK a b m (c2, p, fp)) := Lib.hid (by rw [HR3.out, hcut])
  clear hflag hzl hcut
  go_upto_if 60 with (go_at_call 17; (with_reducible refine (CC.out _).mono ?_); rintro e wn ⟨rfl, hbn⟩; have Mn := Lib.hid (M3.out.below (drawn_below hbn)); clear hbn)
  go_cut [] (fun wx => Hid (Sm w gp g [.string (ofL a), .string (ofL b), .string (ofL c2)] [.int .u64 0, .int .u64 0, .int .u64 0, .string (ofL p), .string (ofL m), .string s] wx) ∧ Hid (¬ (fp = true ∧ preOk p = false)))
  case first =>
   cases fp with
   | false =>
    obtain ⟨h1, h2, _⟩ := cutF_none HCUT.out
    subst h1 h2
    go_wp2_with fail
    go_meet
    exact ⟨Mn, Lib.hid (fun h => by cases h.1)⟩
   | true =>
    obtain ⟨h1, _, _⟩ := cutF_some HCUT.out
    have CX := Lib.hid fun W => semver_zzSplitN.calls 1000 (ofL c1) ⟨#[45]⟩ 2 [ofL c2, ofL p] W (by have := zzSplitN_f (ofL c1) 45 1 (by decide) (by rw [size_ofL]; have := HC.out; omega) 1000 (by rw [size_ofL]; have := HC.out; omega); rw [bl_ofL, h1] at this; exact this)
    clear h1
    have y2 := Mn.out.p.cell 2 _ rfl
    cases hok : preOk p with
    | true =>
     have CM := Lib.hid fun W (hW : Below w.heap.size w W) => pre_ok (ofL p) (by rw [size_ofL]; have := HZL.out; omega) (by rw [bl_ofL]; exact hok) W (HE.out.below hW).sem
     have HOK := Lib.hid hok
     clear hok
     go_wp2_with (first
      | (go_at_call 16; (with_reducible refine (CX.out _).mono ?_); rintro e wx ⟨vx, rfl, hox, hbx⟩; obtain ⟨gx, cx, ex, hgx, hbxx⟩ := box_of_own (Kd.own_of_R hox) (by simp); subst ex; have hMx := Mn.out.below hbx; have z0 := hbxx.cell 0 (.string (ofL c2)) rfl; have z1 := hbxx.cell 1 (.string (ofL p)) rfl; have v4 := hMx.v.cell 3 _ rfl; have f4 := hMx.v.free 3; have p2 := hMx.p.cell 2 _ rfl; have q2 := hMx.p.free 2; have Mx := Lib.hid hMx; clear hox hbx hbxx hMx hgx)
      | (go_at_call 19; (with_reducible refine (CM.out _ ?c7).mono ?_); (case c7 => exact ((Mx.out.setV 3 (by simp) (.string (ofL p))).setP 2 (by simp) (.string (ofL c2))).bel); rintro e wy ⟨rfl, hby⟩; have My := Lib.hid (((Mx.out.setV 3 (by simp) (.string (ofL p))).setP 2 (by simp) (.string (ofL c2))).below hby); clear hby))
     go_meet
     exact ⟨My, Lib.hid (fun h => by rw [HOK.out] at h; cases h.2)⟩
    | false =>
     have CM : Hid (∀ W, Below w.heap.size w W → Calls Tryd.prog 19 #[.string (ofL p)] W fun e w' => e = .returned (.iface (te (preCode p)) (pe (preCode p))) ∧ Below W.heap.size W w') := Lib.hid fun W hW => by
      have := validatePrerelease_l (ofL p) (by rw [size_ofL]; have := HZL.out; omega) (te 6) (te 4) (pe 6) (pe 4) W ((HE.out.below hW).c 6) ((HE.out.below hW).lt 6) ((HE.out.below hW).c 4) ((HE.out.below hW).lt 4)
      rw [bl_ofL] at this
      refine this.mono ?_
      rintro e w' ⟨rfl, hb⟩
      refine ⟨?_, hb⟩
      have hz := preErr_zero (splitL 46 p)
      change _ = preOk p at hz
      rw [hok, beq_eq_false_iff_ne] at hz
      unfold preVal preCode
      rw [if_neg hz]
      by_cases h1 : preErr ((splitL 46 p).map ofL) = 1
      ·
       rw [if_pos h1, if_pos h1]
      ·
       rw [if_neg h1, if_neg h1]
     have HV : Hid (R = .error (preCode p)) := Lib.hid (by rw [HRX.out]; exact if_pos ⟨rfl, hok⟩)
     have hkp : preCode p ≠ 7 := by unfold preCode; split <;> decide
     generalize preCode p = kp at *
     clear hok
     go_wp2_with (first
      | (go_at_call 16; (with_reducible refine (CX.out _).mono ?_); rintro e wx ⟨vx, rfl, hox, hbx⟩; obtain ⟨gx, cx, ex, hgx, hbxx⟩ := box_of_own (Kd.own_of_R hox) (by simp); subst ex; have hMx := Mn.out.below hbx; have z0 := hbxx.cell 0 (.string (ofL c2)) rfl; have z1 := hbxx.cell 1 (.string (ofL p)) rfl; have v4 := hMx.v.cell 3 _ rfl; have f4 := hMx.v.free 3; have p2 := hMx.p.cell 2 _ rfl; have q2 := hMx.p.free 2; have Mx := Lib.hid hMx; clear hox hbx hbxx hMx hgx)
      | (go_at_call 19; (with_reducible refine (CM.out _ ?c7).mono ?_); (case c7 => exact ((Mx.out.setV 3 (by simp) (.string (ofL p))).setP 2 (by simp) (.string (ofL c2))).bel); rintro e wy ⟨rfl, hby⟩; have My := Lib.hid (((Mx.out.setV 3 (by simp) (.string (ofL p))).setP 2 (by simp) (.string (ofL c2))).below hby); clear hby))
     go_ret2
     exact StrictR.err _ HV.out My.out.bel hkp
  obtain ⟨M4, hno⟩ := hcut
  have HR4 : Hid (R = numK a b c2 p m) := Lib.hid (by rw [HRX.out]; exact if_neg hno.out)
  have HC2 := Lib.hid HZL.out.1
  clear M3 HRX hno HR3 HCUT CC
  have M4' := M4
  go_upto_region 23 with fail
  go_wp2_with fail
  go_loopw [86] (fun i w' => ∃ kk : Nat, i = .int .i64 kk ∧ kk ≤ 3 ∧ Hid (∀ j, j < kk → partK ([a, b, c2].getD j []) = 8) ∧ Hid (Sm w gp g [.string (ofL a), .string (ofL b), .string (ofL c2)] [.int .u64 0, .int .u64 0, .int .u64 0, .string (ofL p), .string (ofL m), .string s] w')) (fun i _ => 3 - (Go.RowKit.intOf i).toNat)
  case atStart => exact ⟨0, rfl, by omega, Lib.hid (fun j h => by omega), M4⟩
  case round =>
   obtain ⟨kk, rfl, hk, HGD, MM⟩ := hrel
   clear M4 M4'
   by_cases hlt : kk < 3
   ·
    have b0 : decide ((kk : Int) < 3) = true := decide_eq_true (by omega)
    have b0' : decide (kk < 3) = true := decide_eq_true hlt
    have p1 : 0 ≤ (kk : Int) := by omega
    have hkI : (kk : Int) < 3 := by omega
    obtain ⟨l, hl⟩ : ∃ l, l = [a, b, c2].getD kk [] := ⟨_, rfl⟩
    have hx : wr.cell? ⟨gp, kk, none⟩ = some (.string (ofL l)) := MM.out.p.cell kk _ (by rw [hl]; exact ps_at a b c2 kk hlt)
    have hbad : partK l ≠ 8 → R = .error (partK l) := fun h => by rw [HR4.out, hl] at *; exact numK_bad a b c2 p m kk hlt HGD.out h
    have hnext : partK l = 8 → ∀ j, j < kk + 1 → partK ([a, b, c2].getD j []) = 8 := fun h j hj => by
     rcases Nat.lt_or_ge j kk with h1 | h1
     ·
      exact HGD.out j h1
     ·
      have : j = kk := by omega
      subst this; rw [← hl]; exact h
    obtain ⟨q, hq⟩ : ∃ q, q = ofL l := ⟨_, rfl⟩
    have hdig : only q digits = l.all isDig := by rw [hq]; exact only_digits l
    have hlead : lead q = leadL l := by rw [hq]; rfl
    rw [← hq] at hx
    have hpk : partK l = if only q digits = false then 3 else if lead q = true then 4 else 8 := by rw [hdig, hlead]; rfl
    rw [hpk] at hbad hnext
    have HK3 := Lib.hid hlt
    have CO : Hid (∀ W, Calls Tryd.prog 20 #[.string q, .string ⟨#[48, 49, 50, 51, 52, 53, 54, 55, 56, 57]⟩] W fun e w' => e = .returned (.bool (only q digits)) ∧ Below W.heap.size W w') := Lib.hid (fun W => Only.containsOnly q digits W)
    clear hl hq hpk hdig hlead hlt
    cases hn : only q digits
    ·
     have HV : Hid (R = .error 3) := Lib.hid (by have := hbad (by rw [hn]; simp); rw [hn] at this; exact this)
     rw [hn] at CO
     clear hn hbad hnext
     go_wp2_with (go_at_call 20; (with_reducible refine (CO.out _).mono ?_); rintro e wo ⟨rfl, hbo⟩; have Mo := Lib.hid (MM.out.below hbo); have c0 : wo.cell? ⟨3, 0, none⟩ = some (.iface (te 3) (pe 3)) := (HE.out.below Mo.out.bel).c 3; clear hbo)
     go_region
     go_wp2_with fail
     go_ret2
     exact StrictR.err 3 HV.out (by repeat (first | exact Mo.out.bel | apply Below.drew))
    ·
     rw [hn] at CO hbad hnext
     cases hl : lead q
     ·
      have HGD2 := Lib.hid (hnext (by rw [hl]; rfl))
      clear hbad hnext hn
      by_cases h1 : 1 < q.size
      ·
       have d1 : decide (1 < (q.size : Int)) = true := decide_eq_true (by omega)
       have d1' : decide (1 < q.size) = true := decide_eq_true h1
       have d2 : (((q.data.toList.headD 0).toNat : Int) == 48) = false := by
        have hx0 : (q.data.toList.headD 0 == 48) = false := by unfold lead at hl; rw [d1', Bool.true_and] at hl; exact hl
        rw [beq_eq_false_iff_ne] at hx0 ⊢
        intro e; apply hx0; apply UInt8.toNat_inj.1
        show _ = 48; omega
       have hh : q.data.toList.headD 0 = q[0] := by
        have : q.data.toList = q[0] :: q.data.toList.drop 1 := by
         have h2 : 0 < q.data.toList.length := by simpa using (by omega : 0 < q.size)
         have := List.drop_eq_getElem_cons h2
         rw [List.drop_zero] at this
         exact this
        rw [this]; rfl
       rw [hh] at d2
       clear hl hh
       go_wp2_with (go_at_call 20; (with_reducible refine (CO.out _).mono ?_); rintro e wo ⟨rfl, hbo⟩; have Mo := Lib.hid (MM.out.below hbo); have c0 : wo.cell? ⟨4, 0, none⟩ = some (.iface (te 4) (pe 4)) := (HE.out.below Mo.out.bel).c 4; clear hbo)
       go_roundw
       case rel => exact ⟨kk + 1, by go_num, HK3.out, HGD2, Mo⟩
       case measure => have := HK3.out; simp [Go.RowKit.intOf]; omega
      ·
       have d1 : decide (1 < (q.size : Int)) = false := decide_eq_false (by omega)
       have d1' : decide (1 < q.size) = false := decide_eq_false h1
       clear hl h1
       go_wp2_with (go_at_call 20; (with_reducible refine (CO.out _).mono ?_); rintro e wo ⟨rfl, hbo⟩; have Mo := Lib.hid (MM.out.below hbo); have c0 : wo.cell? ⟨4, 0, none⟩ = some (.iface (te 4) (pe 4)) := (HE.out.below Mo.out.bel).c 4; clear hbo)
       go_roundw
       case rel => exact ⟨kk + 1, by go_num, HK3.out, HGD2, Mo⟩
       case measure => have := HK3.out; simp [Go.RowKit.intOf]; omega
     ·
      have HV : Hid (R = .error 4) := Lib.hid (by have := hbad (by rw [hl]; simp); rw [hl] at this; exact this)
      clear hbad hnext hn
      have h1 : 1 < q.size := by unfold lead at hl; rw [Bool.and_eq_true, decide_eq_true_eq] at hl; exact hl.1
      have d1 : decide (1 < (q.size : Int)) = true := decide_eq_true (by omega)
      have d1' : decide (1 < q.size) = true := decide_eq_true h1
      have d2 : (((q.data.toList.headD 0).toNat : Int) == 48) = true := by
       have hx0 : (q.data.toList.headD 0 == 48) = true := by unfold lead at hl; rw [d1', Bool.true_and] at hl; exact hl
       rw [beq_iff_eq] at hx0 ⊢
       rw [hx0]; rfl
      have hh : q.data.toList.headD 0 = q[0] := by
       have : q.data.toList = q[0] :: q.data.toList.drop 1 := by
        have h2 : 0 < q.data.toList.length := by simpa using (by omega : 0 < q.size)
        have := List.drop_eq_getElem_cons h2
        rw [List.drop_zero] at this
        exact this
       rw [this]; rfl
      rw [hh] at d2
      clear hl hh
      go_wp2_with (go_at_call 20; (with_reducible refine (CO.out _).mono ?_); rintro e wo ⟨rfl, hbo⟩; have Mo := Lib.hid (MM.out.below hbo); have c0 : wo.cell? ⟨4, 0, none⟩ = some (.iface (te 4) (pe 4)) := (HE.out.below Mo.out.bel).c 4; clear hbo)
      go_region
      go_wp2_with fail
      go_ret2
      exact StrictR.err 4 HV.out (by repeat (first | exact Mo.out.bel | apply Below.drew))
   ·
    obtain rfl : kk = 3 := by omega
    have HR5 : Hid (R = parseK a b c2 p m) := Lib.hid (by
     rw [HR4.out]
     unfold numK
     rw [if_neg (fun h => h (HGD.out 0 (by decide))), if_neg (fun h => h (HGD.out 1 (by decide))), if_neg (fun h => h (HGD.out 2 (by decide)))])
    have hb0 : decide ((3 : Int) < 3) = false := by decide
    clear hlt hk HGD HR4
    have x0 := MM.out.p.cell 0 _ rfl
    cases hna : num a with
    | none =>
     have HV : Hid (R = .error 7) := Lib.hid (by rw [HR5.out]; unfold parseK; rw [hna])
     have CA := Lib.hid fun W hW => parse_errN (te := te) (pe := pe) (ofL a) (by rw [size_ofL]; have := HA.out; omega) (by rw [show (ofL a).data.toList = a from rfl]; exact hna) W hW
     clear hna
     go_wp2_with (go_at_call 21; (with_reducible refine (CA.out _ ?c5).mono ?_); (case c5 => exact HE.out.below MM.out.bel); rintro e wq0 ⟨xv, t, y, rfl, hbq, hNE⟩; have HNE := Lib.hid (hNE.set (MM.out.v.lt) 0 (.int .u64 xv) w.heap.size MM.out.bel.size); clear hNE; have hMq := MM.out.below hbq; have vq0 := hMq.v.cell 0 _ rfl; have fq0 := hMq.v.free 0; have Mq0 := Lib.hid hMq; clear hbq hMq)
     go_ret2
     exact StrictR.oth HV.out (Mq0.out.setV 0 (by simp) (.int .u64 xv)).bel HNE.out
    | some na =>
     have CA := Lib.hid fun W => parse_ok (ofL a) (by rw [size_ofL]; have := HA.out; omega) na (by rw [show (ofL a).data.toList = a from rfl]; exact hna) W
     cases hnb : num b with
     | none =>
      have HV : Hid (R = .error 7) := Lib.hid (by rw [HR5.out]; unfold parseK; rw [hna]; dsimp only; rw [hnb])
      have CB := Lib.hid fun W hW => parse_errN (te := te) (pe := pe) (ofL b) (by rw [size_ofL]; have := HB.out; omega) (by rw [show (ofL b).data.toList = b from rfl]; exact hnb) W hW
      clear hna hnb
      go_wp2_with (first
       | (go_at_call 21; (with_reducible refine (CA.out _).mono ?_); rintro e wq0 ⟨rfl, hbq⟩; have hMq := MM.out.below hbq; have vq0 := hMq.v.cell 0 _ rfl; have fq0 := hMq.v.free 0; have x1' := hMq.p.cell 1 _ rfl; have Mq0 := Lib.hid hMq; clear hbq hMq)
       | (go_at_call 21; (with_reducible refine (CB.out _ ?c5).mono ?_); (case c5 => exact HE.out.below (Mq0.out.setV 0 (by simp) (.int .u64 (na : Int))).bel); rintro e wq1 ⟨xv, t, y, rfl, hbq, hNE⟩; have HNE := Lib.hid (hNE.set ((Mq0.out.setV 0 (by simp) (.int .u64 (na : Int))).v.lt) 1 (.int .u64 xv) w.heap.size (Mq0.out.setV 0 (by simp) (.int .u64 (na : Int))).bel.size); clear hNE; have hMq := (Mq0.out.setV 0 (by simp) (.int .u64 (na : Int))).below hbq; have vq1 := hMq.v.cell 1 _ rfl; have fq1 := hMq.v.free 1; have Mq1 := Lib.hid hMq; clear hbq hMq))
      go_ret2
      exact StrictR.oth HV.out (Mq1.out.setV 1 (by simp) (.int .u64 xv)).bel HNE.out
     | some nb =>
      have CB := Lib.hid fun W => parse_ok (ofL b) (by rw [size_ofL]; have := HB.out; omega) nb (by rw [show (ofL b).data.toList = b from rfl]; exact hnb) W
      cases hnc : num c2 with
      | none =>
       have HV : Hid (R = .error 7) := Lib.hid (by rw [HR5.out]; unfold parseK; rw [hna]; dsimp only; rw [hnb]; dsimp only; rw [hnc])
       have CC2 := Lib.hid fun W hW => parse_errN (te := te) (pe := pe) (ofL c2) (by rw [size_ofL]; have := HC2.out; omega) (by rw [show (ofL c2).data.toList = c2 from rfl]; exact hnc) W hW
       clear hna hnb hnc
       go_wp2_with (first
        | (go_at_call 21; (with_reducible refine (CA.out _).mono ?_); rintro e wq0 ⟨rfl, hbq⟩; have hMq := MM.out.below hbq; have vq0 := hMq.v.cell 0 _ rfl; have fq0 := hMq.v.free 0; have x1' := hMq.p.cell 1 _ rfl; have Mq0 := Lib.hid hMq; clear hbq hMq)
        | (go_at_call 21; (with_reducible refine (CB.out _).mono ?_); rintro e wq1 ⟨rfl, hbq⟩; have hMq := (Mq0.out.setV 0 (by simp) (.int .u64 (na : Int))).below hbq; have vq1 := hMq.v.cell 1 _ rfl; have fq1 := hMq.v.free 1; have x2' := hMq.p.cell 2 _ rfl; have Mq1 := Lib.hid hMq; clear hbq hMq)
        | (go_at_call 21; (with_reducible refine (CC2.out _ ?c5).mono ?_); (case c5 => exact HE.out.below (Mq1.out.setV 1 (by simp) (.int .u64 (nb : Int))).bel); rintro e wq2 ⟨xv, t, y, rfl, hbq, hNE⟩; have HNE := Lib.hid (hNE.set ((Mq1.out.setV 1 (by simp) (.int .u64 (nb : Int))).v.lt) 2 (.int .u64 xv) w.heap.size (Mq1.out.setV 1 (by simp) (.int .u64 (nb : Int))).bel.size); clear hNE; have hMq := (Mq1.out.setV 1 (by simp) (.int .u64 (nb : Int))).below hbq; have vq2 := hMq.v.cell 2 _ rfl; have fq2 := hMq.v.free 2; have Mq2 := Lib.hid hMq; clear hbq hMq))
       go_ret2
       exact StrictR.oth HV.out (Mq2.out.setV 2 (by simp) (.int .u64 xv)).bel HNE.out
      | some nc =>
       have HV : Hid (R = .ok (na, nb, nc, p, m)) := Lib.hid (by rw [HR5.out]; unfold parseK; rw [hna]; dsimp only; rw [hnb]; dsimp only; rw [hnc])
       have CC2 := Lib.hid fun W => parse_ok (ofL c2) (by rw [size_ofL]; have := HC2.out; omega) nc (by rw [show (ofL c2).data.toList = c2 from rfl]; exact hnc) W
       clear hna hnb hnc
       go_wp2_with (first
        | (go_at_call 21; (with_reducible refine (CA.out _).mono ?_); rintro e wq0 ⟨rfl, hbq⟩; have hMq := MM.out.below hbq; have vq0 := hMq.v.cell 0 _ rfl; have fq0 := hMq.v.free 0; have x1' := hMq.p.cell 1 _ rfl; have Mq0 := Lib.hid hMq; clear hbq hMq)
        | (go_at_call 21; (with_reducible refine (CB.out _).mono ?_); rintro e wq1 ⟨rfl, hbq⟩; have hMq := (Mq0.out.setV 0 (by simp) (.int .u64 (na : Int))).below hbq; have vq1 := hMq.v.cell 1 _ rfl; have fq1 := hMq.v.free 1; have x2' := hMq.p.cell 2 _ rfl; have Mq1 := Lib.hid hMq; clear hbq hMq)
        | (go_at_call 21; (with_reducible refine (CC2.out _).mono ?_); rintro e wq2 ⟨rfl, hbq⟩; have hMq := (Mq1.out.setV 1 (by simp) (.int .u64 (nb : Int))).below hbq; have vq2 := hMq.v.cell 2 _ rfl; have fq2 := hMq.v.free 2; have Mq2 := Lib.hid hMq; clear hbq hMq))
       go_ret2
       have hF := Mq2.out.setV 2 (by simp) (.int .u64 (nc : Int))
       exact StrictR.good HV.out hF.v hF.lg hF.bel
 ·
  have t3 : (((P.map ofL).length : Int) != 3) = true := by rw [bne_iff_ne, List.length_map]; omega
  have HV : Hid (R = .error 2) := Lib.hid (by rw [hR, partsK_no h3])
  have HP : Hid (0 < (P.map ofL).length) := Lib.hid (by rw [List.length_map]; omega)
  clear hR hpz hpl h3 hs hlen h1 hE hStd
  generalize P.map ofL = Q at *
  go_enter Tryd.func7, Tryd.ntmps7
  go_wp2_with (go_at_call 16; (with_reducible refine (CS.out _).mono ?_); rintro e w1 ⟨v1, rfl, ho1, hb1⟩; obtain ⟨A1, c1, e1⟩ := Kd.R_slice ho1; subst e1; have c0 : w1.cell? ⟨2, 0, none⟩ = some (.iface (te 2) (pe 2)) := (HE.out.below hb1).c 2; have HB1 := Lib.hid hb1; clear ho1 hb1)
  go_region
  go_wp2_with fail
  go_ret2
  exact StrictR.err 2 HV.out (by repeat (first | exact HB1.out | apply Below.drew))

end Go.Proofs.YtnncjgoogjookaaDoor.Rxw
namespace Go.Proofs.YtnncjgoogjookaaDoor.KX

open Go.RowKit Go.Proofs.YtnncjgoogjookaaDoor Go.Proofs.YtnncjgoogjookaaDoor.L Go.Proofs.YtnncjgoogjookaaDoor.Bt Go.Proofs.YtnncjgoogjookaaDoor.PX Go.Proofs.YtnncjgoogjookaaDoor.Parse Go.Proofs.YtnncjgoogjookaaDoor.Num Go.Proofs.YtnncjgoogjookaaDoor.Rxw Go.Proofs.YtnncjgoogjookaaDoor.MetaX

open Go.Proofs.YtnncjgoogjookaaDoorW.PrintWords Go.Proofs.YtnncjgoogjookaaDoorW.PrintLast Go.Proofs.YtnncjgoogjookaaDoorW.PrintMore

def nkL (p : List UInt8) : Int := if partK p = 8 then 0 else (partK p : Nat)

theorem numberKind_f (s : ByteArray) (hs : s.size ≤ 2147483647) (k : Nat) (hk : s.size < k) : spec_NumberKind.f k s = some (nkL (bl s)) := by
  unfold spec_NumberKind.f
  rw [Bt.toList_bl]
  by_cases h : bl s = []
  · rw [if_pos h, h]; rfl
  have e : (bl s == []) = false := beq_eq_false_iff_ne.2 h
  have hl := bl_len s
  rw [if_neg h, digits_f s hs k hk, Option.bind_some, e, Bool.not_false, Bool.and_true]
  cases hd : (bl s).all isDig with
  | false =>
    have hP : partK (bl s) = 3 := by unfold partK; rw [if_pos hd]
    rw [if_neg (by decide)]
    unfold nkL
    rw [hP]; rfl
  | true =>
    have hP : partK (bl s) = if leadL (bl s) = true then 4 else 8 := by unfold partK; rw [if_neg (by rw [hd]; decide)]
    rw [if_pos rfl]
    unfold nkL
    rw [hP]
    unfold leadL
    obtain ⟨x, t, hx⟩ : ∃ x t, bl s = x :: t := by
      cases e2 : bl s with
      | nil => exact absurd e2 h
      | cons x t => exact ⟨x, t, rfl⟩
    by_cases h1 : 1 < (bl s).length
    · have h0 : bt s ((0 : Nat) : Int) = _ := bt_bl s 0 (by omega)
      have e0 : (bl s)[0]'(by omega) = x := by simp [hx]
      rw [e0] at h0
      rw [if_pos (by omega), if_pos (by omega), show bt s 0 = (x.toNat : Int) from h0, decide_eq_true h1, Bool.true_and, hx]
      have hh : (x :: t).headD 0 = x := rfl
      rw [hh]
      by_cases hx8 : x = 48
      · subst hx8; rfl
      · have hb : (x == 48) = false := beq_eq_false_iff_ne.2 hx8
        rw [if_neg (fun e => hx8 (UInt8.toNat_inj.1 (by show x.toNat = 48; omega))), hb]; rfl
    · rw [if_neg (by omega), decide_eq_false h1, Bool.false_and]; rfl

def pkL : List (List UInt8) → Int
  | [] => 0
  | p :: t => if zeroP p = true then 4 else if metaP p = true then pkL t else 5

theorem preKind_val (p : List UInt8) : preKind (ofL p) = if zeroP p = true then 2 else if metaP p = true then 0 else 1 := by
  unfold preKind metaP zeroP lead
  rw [Bt.toList_bl, bl_ofL, only_digits, only_allowed, size_ofL]
  have e : (ofL p).data.toList = p := rfl
  rw [e]
  by_cases h : p = []
  · subst h; rfl
  have e2 : (p == []) = false := beq_eq_false_iff_ne.2 h
  rw [if_neg h, e2]
  cases hd : p.all isDig
  · cases hi : p.all isId <;> simp
  · have hi : p.all isId = true := List.all_eq_true.2 fun x hx => isId_of_dig x (List.all_eq_true.1 hd x hx)
    rw [hi]
    generalize decide (1 < p.length) = a
    generalize (p.headD 0 == 48) = b
    cases a <;> cases b <;> rfl

theorem pkL_err : ∀ L : List (List UInt8), pkL L = if preErr (L.map ofL) = 0 then 0 else if preErr (L.map ofL) = 1 then 5 else 4
  | [] => rfl
  | p :: t => by
    rw [List.map_cons, preErr, pkL, preKind_val p, pkL_err t]
    cases zeroP p
    · cases metaP p
      · rfl
      · rfl
    · rfl

theorem preKind_l0 (l : List (List UInt8)) (B : Nat) (hB : B ≤ 2147483647) (hl : l.length ≤ 2147483648) (hp : ∀ p ∈ l, p.length ≤ B) : ∀ (d k i : Nat), l.length - i = d → i ≤ l.length → B + 2 * d + 2 < k →
    spec_PreKind.l0 k (l.map ofL) ((l.map ofL).length : Int) (i : Int) = some (pkL (l.drop i)) := by
  intro d
  induction d with
  | zero =>
    intro k i hd hi hk
    obtain ⟨k, rfl⟩ : ∃ m, k = m + 1 := ⟨k - 1, by omega⟩
    simp only [spec_PreKind.l0, List.length_map]
    rw [if_neg (by omega), List.drop_of_length_le (by omega)]
    rfl
  | succ d ih =>
    intro k i hd hi hk
    obtain ⟨k, rfl⟩ : ∃ m, k = m + 2 := ⟨k - 2, by omega⟩
    have hlt : i < l.length := by omega
    have hq := hp _ (List.getElem_mem hlt)
    have ih2 := ih k (i + 1) (by omega) (by omega) (by omega)
    have hj : ∀ z, z = zeroP l[i] → spec_PreKind.j1 (k + 1) (ofL l[i]) (l.map ofL) ((l.map ofL).length : Int) (i : Int) z = some (pkL (l.drop i)) := by
      intro z hz
      rw [List.drop_eq_getElem_cons hlt, pkL, hz]
      simp only [spec_PreKind.j1]
      cases zeroP l[i]
      · rw [if_neg (by decide), if_neg (by decide), validIdent_f (ofL l[i]) (by rw [size_ofL]; omega) k (by rw [size_ofL]; omega), Option.bind_some, bl_ofL]
        cases metaP l[i]
        · rfl
        · rw [if_pos rfl, if_pos rfl, w64 (by omega) (by omega), show ((i : Int) + 1) = ((i + 1 : Nat) : Int) by omega, ih2]
      · rfl
    simp only [spec_PreKind.l0]
    rw [if_pos (by rw [List.length_map]; omega), if_pos (by omega), if_pos (by rw [List.length_map]; omega), rd_map l i hlt, digits_f (ofL l[i]) (by rw [size_ofL]; omega) (k + 1) (by rw [size_ofL]; omega), Option.bind_some, bl_ofL, size_ofL]
    cases hd : l[i].all isDig && !(l[i] == []) with
    | false =>
      rw [if_neg (by decide)]
      exact hj false (by unfold zeroP; rw [hd]; rfl)
    | true =>
      rw [if_pos rfl]
      by_cases h1 : 1 < l[i].length
      · obtain ⟨x, t, hx⟩ : ∃ x t, l[i] = x :: t := by
          cases e2 : l[i] with
          | nil => rw [e2] at h1; simp at h1
          | cons x t => exact ⟨x, t, rfl⟩
        have h0 : bt (ofL l[i]) ((0 : Nat) : Int) = _ := bt_bl (ofL l[i]) 0 (by rw [size_ofL]; omega)
        have e0 : (bl (ofL l[i]))[0]'(by rw [bl_ofL]; omega) = x := by simp [bl_ofL, hx]
        rw [e0] at h0
        rw [if_pos (by omega), if_pos (by omega), show bt (ofL l[i]) 0 = _ from h0]
        refine hj _ ?_
        unfold zeroP
        rw [hd, decide_eq_true h1, Bool.true_and, Bool.true_and, hx]
        show _ = (x == 48)
        rw [Bool.eq_iff_iff, beq_iff_eq, beq_iff_eq]
        exact ⟨fun e => UInt8.toNat_inj.1 (by show x.toNat = 48; omega), fun e => by subst e; rfl⟩
      · rw [if_neg (by omega)]
        refine hj false ?_
        unfold zeroP
        rw [decide_eq_false h1, Bool.and_false, Bool.false_and]

theorem preKind_f (s : ByteArray) (hs : s.size ≤ 2147483647) (k : Nat) (hk : 3 * s.size + 10 < k) : spec_PreKind.f k s = some (pkL (splitL 46 (bl s))) := by
  have hlen := splitL_len 46 (bl s)
  rw [bl_len] at hlen
  unfold spec_PreKind.f
  rw [identifiers_f s (by omega) _ (by omega), Option.bind_some]
  have := preKind_l0 (splitL 46 (bl s)) s.size (by omega) (by omega) (fun p hp => by have := parts_le 46 _ p hp; rw [bl_len] at this; exact this) (splitL 46 (bl s)).length k 0 (by omega) (by omega) (by omega)
  rw [List.drop_zero] at this
  exact this

end Go.Proofs.YtnncjgoogjookaaDoor.KX
namespace Go.Proofs.YtnncjgoogjookaaDoor.Rxw

open Go Go.RowKit Go.Lib Go.Sort Go.Proofs Go.Proofs.YtnncjgoogjookaaDoor Go.Proofs.YtnncjgoogjookaaDoor.Base Go.Proofs.YtnncjgoogjookaaDoor.L Go.Proofs.YtnncjgoogjookaaDoor.PX

open Go.Proofs.YtnncjgoogjookaaDoorW.PrintWords Go.Proofs.YtnncjgoogjookaaDoorW.PrintLast Go.Proofs.YtnncjgoogjookaaDoorW.PrintMore

/-- Three texts in an array's block. -/
theorem three {w W : World} {b : Nat} {vs : List Value} (x0 x1 x2 : Value) (Z : Box W b vs) (hv : vs.length = 3) (B : Below w.heap.size w W) (hb : w.heap.size ≤ b) :
    Box (((W.setCell ⟨b, 0, none⟩ x0).setCell ⟨b, 1, none⟩ x1).setCell ⟨b, 2, none⟩ x2) b [x0, x1, x2] ∧
      Below w.heap.size w (((W.setCell ⟨b, 0, none⟩ x0).setCell ⟨b, 1, none⟩ x1).setCell ⟨b, 2, none⟩ x2) := by
  obtain ⟨a0, a1, a2, rfl⟩ : ∃ a0 a1 a2, vs = [a0, a1, a2] := by
    match vs, hv with
    | [a0, a1, a2], _ => exact ⟨_, _, _, rfl⟩
  exact ⟨((Z.set 0 (by simp) _).set 1 (by simp) _).set 2 (by simp) _, ((B.setCell hb _).setCell hb _).setCell hb _⟩

set_option maxHeartbeats 8000000 in
set_option maxRecDepth 100000 in
theorem dottedW (k : Nat) (s a r1 b c : ByteArray) (one two : Bool) (h1 : spec_cutAt.f k s 46 = some (a, r1, one)) (h2 : spec_cutAt.f k r1 46 = some (b, c, two)) (w : World) :
    Calls Tryd.prog 9 #[.string s] w fun e w' => e = .returned (.tuple #[.agg #[.string a, .string b, .string c], .bool (one && two)]) ∧ Below w.heap.size w w' := by
  have C1 := Lib.hid fun W => spec_cutAt.calls k s 46 a r1 one W h1
  have C2 := Lib.hid fun W => spec_cutAt.calls k r1 46 b c two W h2
  clear h1 h2
  go_enter Tryd.func9, Tryd.ntmps9
  go_upto_region 1 with fail
  have hz := Box.new' w #[.string ⟨#[]⟩, .string ⟨#[]⟩, .string ⟨#[]⟩] 31 _ rfl
  have hb := (Below.refl w.heap.size w).alloc (Nat.le_refl _) (.cells #[.string ⟨#[]⟩, .string ⟨#[]⟩, .string ⟨#[]⟩] 31)
  generalize World.alloc w _ = w0 at *
  have HZ := Lib.hid hz
  have HB := Lib.hid hb
  clear hz hb
  cases one
  all_goals (cases two)
  all_goals (go_wp2_with (first
    | (go_at_call 10; (with_reducible refine (C1.out _).mono ?_); rintro e w1 ⟨rfl, hb1⟩; have hB1 := drawn_below hb1; have HZ1 := Lib.hid (HZ.out.below hB1); have HB1 := Lib.hid (HB.out.trans (hB1.mono HB.out.size)); clear hb1 hB1)
    | (go_at_call 10; (with_reducible refine (C2.out _).mono ?_); rintro e w2 ⟨rfl, hb2⟩; have hB2 := drawn_below hb2; have HZ2 := Lib.hid (HZ1.out.below hB2); have HB2 := Lib.hid (HB1.out.trans (hB2.mono HB1.out.size)); have e0 := HZ2.out.cell 0 _ rfl; have e1 := HZ2.out.cell 1 _ rfl; have e2 := HZ2.out.cell 2 _ rfl; have fz := HZ2.out.free; have hzl := HZ2.out.lt; clear hb2 hB2)))
  all_goals (
    clear e0 e1 e2
    obtain ⟨Z4, b4⟩ := three (.string a) (.string b) (.string c) HZ2.out rfl HB2.out (Nat.le_refl _)
    generalize World.setCell _ _ _ = w4 at *
    have r0 := Z4.cell 0 _ rfl
    have r1' := Z4.cell 1 _ rfl
    have r2 := Z4.cell 2 _ rfl
    refine bodyPost_ret (v := .tuple #[.agg #[.string a, .string b, .string c], .bool _]) (by simp [results, Tryd.results9, go_sem, r0, r1', r2]) rfl ⟨rfl, b4⟩)

theorem ix0 (a b c : ByteArray) (w : World) : (Instr.index 31 (.agg #[.string a, .string b, .string c]) (.int .i64 0)).run Tryd.prog w = .ok (.string a) w := by kernel_rfl

theorem ix1 (a b c : ByteArray) (w : World) : (Instr.index 31 (.agg #[.string a, .string b, .string c]) (.int .i64 1)).run Tryd.prog w = .ok (.string b) w := by kernel_rfl

theorem ix2 (a b c : ByteArray) (w : World) : (Instr.index 31 (.agg #[.string a, .string b, .string c]) (.int .i64 2)).run Tryd.prog w = .ok (.string c) w := by kernel_rfl

/-- What spec.StrictKind gives, out of its parts. -/
def numsV (nk : ByteArray → Int) (nb : ByteArray → Bool) (l : List ByteArray) : Int := match l.find? fun x => nk x != 0 with
  | some x => nk x
  | none => if l.all nb then 0 else 10

def skV (e0 g ok plus vm hy : Bool) (pk nums : Int) : Int := if e0 then 1 else if g then 2 else if !ok then 7 else if plus && !vm then 6 else if hy && (pk != 0) then pk else nums

set_option maxHeartbeats 8000000 in
set_option maxRecDepth 100000 in
theorem specKindW (k : Nat) (s a b c r1 rest m n p : ByteArray) (one two plus hy vm e0 g : Bool) (pk : Int) (nk nv : ByteArray → Int) (nb : ByteArray → Bool)
  (h1 : spec_cutAt.f k s 46 = some (a, r1, one)) (h2 : spec_cutAt.f k r1 46 = some (b, c, two)) (he : (s.toList == ([] : List UInt8)) = e0) (hg : decide (256 < (s.size : Int)) = g)
  (h3 : spec_cutAt.f k c 43 = some (rest, m, plus)) (h4 : spec_cutAt.f k rest 45 = some (n, p, hy)) (h5 : spec_ValidMeta.f k m = some vm) (h6 : spec_PreKind.f k p = some pk)
  (h7 : ∀ x ∈ [a, b, n], spec_NumberKind.f k x = some (nk x)) (h8 : ∀ x ∈ [a, b, n], spec_Number.f k x = some (nv x, nb x)) (w : World) :
  Calls Tryd.prog 5 #[.string s] w fun e w' => e = .returned (.int .i64 (skV e0 g (one && two) plus vm hy pk (numsV nk nb [a, b, n]))) ∧ Below w.heap.size w w' := by
 have C1 := Lib.hid fun W => dottedW k s a r1 b c one two h1 h2 W
 have C3 := Lib.hid fun W => spec_cutAt.calls k c 43 rest m plus W h3
 have C4 := Lib.hid fun W => spec_cutAt.calls k rest 45 n p hy W h4
 have C5 := Lib.hid fun W => spec_ValidMeta.calls k m vm W h5
 have C6 := Lib.hid fun W => spec_PreKind.calls k p pk W h6
 have C7 := Lib.hid fun x hx W => spec_NumberKind.calls k x (nk x) W (h7 x hx)
 have C8 := Lib.hid fun x hx W => spec_Number.calls k x (nv x) (nb x) W (h8 x hx)
 clear h1 h2 h3 h4 h5 h6 h7 h8
 obtain ⟨ok, hok⟩ : ∃ ok, ok = (one && two) := ⟨_, rfl⟩
 rw [← hok] at C1 ⊢
 clear hok one two
 generalize hR : skV e0 g ok plus vm hy pk (numsV nk nb [a, b, n]) = R
 have HR := Lib.hid hR
 clear hR
 go_enter Tryd.func5, Tryd.ntmps5
 go_upto_region 2 with (go_at_call 9; (with_reducible refine (C1.out _).mono ?_); rintro e w1 ⟨rfl, hb1⟩; have HB1 := Lib.hid hb1; clear hb1)
 have Z4 := Box.new' w1 #[.string a, .string b, .string c] 31 _ rfl
 have b4 := HB1.out.alloc HB1.out.size (.cells #[.string a, .string b, .string c] 31)
 have hG := HB1.out.size
 generalize World.alloc w1 _ = w4 at *
 generalize w1.heap.size = G at *
 have HZ4 : Hid (Box w4 G [.string a, .string b, .string c]) := Lib.hid Z4
 have HB4 := Lib.hid b4
 have HG := Lib.hid hG
 clear Z4 b4 hG HB1
 cases e0 with
 | true =>
  have HV : Hid (R = 1) := Lib.hid (HR.out.symm.trans rfl)
  go_wp2_with fail
  go_ret
  exact ⟨by rw [HV.out]; rfl, HB4.out⟩
 | false =>
 cases g with
 | true =>
  have HV : Hid (R = 2) := Lib.hid (HR.out.symm.trans rfl)
  go_wp2_with fail
  go_ret
  exact ⟨by rw [HV.out]; rfl, HB4.out⟩
 | false =>
 cases ok with
 | false =>
  have HV : Hid (R = 7) := Lib.hid (HR.out.symm.trans rfl)
  go_wp2_with fail
  go_ret
  exact ⟨by rw [HV.out]; rfl, HB4.out⟩
 | true =>

 have x2 := HZ4.out.cell 2 _ rfl; have fz := HZ4.out.free; have hzl := HZ4.out.lt
 go_upto_region 11 with (first
  | (go_at_call 10; (with_reducible refine (C3.out _).mono ?_); rintro e w5 ⟨rfl, hb5⟩; have hB5 := drawn_below hb5; have HZ5 := Lib.hid (HZ4.out.below hB5); have HB5 := Lib.hid (HB4.out.trans (hB5.mono HB4.out.size)); clear hb5 hB5)
  | (go_at_call 10; (with_reducible refine (C4.out _).mono ?_); rintro e w6 ⟨rfl, hb6⟩; have hB6 := drawn_below hb6; have HZ6 := Lib.hid (HZ5.out.below hB6); have HB6 := Lib.hid (HB5.out.trans (hB6.mono HB5.out.size)); have y2 := HZ6.out.cell 2 _ rfl; have fz6 := HZ6.out.free; have hzl6 := HZ6.out.lt; clear hb6 hB6))
 have hz7 := HZ6.out.set 2 (by simp) (.string n)
 have hb7 := HB6.out.setCell (p := ⟨G, 2, none⟩) HG.out (.string n)
 generalize World.setCell _ _ _ = w7 at *
 have HZ7 : Hid (Box w7 G [.string a, .string b, .string n]) := Lib.hid hz7
 have HB7 := Lib.hid hb7
 clear x2 fz hzl y2 fz6 hzl6 hz7 hb7 HZ4 HB4 HZ5 HB5 HZ6 HB6 C3 C4
 cases plus with
 | true =>
  cases vm with
  | false =>
   have HV : Hid (R = 6) := Lib.hid (by rw [← HR.out]; simp [skV, numsV])
   go_wp2_with (go_at_call 6; (with_reducible refine (C5.out _).mono ?_); rintro e w8 ⟨rfl, hb8⟩; have HB8 := Lib.hid (HB7.out.trans (hb8.mono HB7.out.size)); clear hb8)
   go_ret
   exact ⟨by rw [HV.out]; rfl, HB8.out⟩
  | true =>
   go_upto_region 13 with (go_at_call 6; (with_reducible refine (C5.out _).mono ?_); rintro e w8 ⟨rfl, hb8⟩; have HZ8 := Lib.hid (HZ7.out.below hb8); have HB8 := Lib.hid (HB7.out.trans (hb8.mono HB7.out.size)); clear hb8)
   go_upto_region 14 with (go_at_call 11; (with_reducible refine (C6.out _).mono ?_); rintro e w9 ⟨rfl, hb9⟩; have HZ9 := Lib.hid (HZ8.out.below hb9); have HB9 := Lib.hid (HB8.out.trans (hb9.mono HB8.out.size)); clear hb9)
   cases hy with
   | true =>
    cases hk : (pk != 0) with
    | true =>
     have HV : Hid (R = pk) := Lib.hid (by rw [← HR.out]; simp [skV, numsV, hk])
     go_wp2_with fail
     go_ret
     exact ⟨by rw [HV.out]; rfl, HB9.out⟩
    | false =>
     have n0 := HZ9.out.cell 0 _ rfl; have n1 := HZ9.out.cell 1 _ rfl; have n2 := HZ9.out.cell 2 _ rfl
     have CA := Lib.hid (C7.out a (by simp)); have CB := Lib.hid (C7.out b (by simp)); have CN := Lib.hid (C7.out n (by simp))
     have DA := Lib.hid (C8.out a (by simp)); have DB := Lib.hid (C8.out b (by simp)); have DN := Lib.hid (C8.out n (by simp))
     clear C5 C6 C7 C8
     have i0 := ix0 a b n; have i1 := ix1 a b n; have i2 := ix2 a b n
     go_wp2_with fail
     refine wp_loop_rounds 4 ?_
     rw [rounds_succ]
     cases ta : (nk a != 0) with
     | true =>
      have HV : Hid (R = nk a) := Lib.hid (by rw [← HR.out]; simp [skV, numsV, hk, ta])
      go_wp2_with (go_at_call 12; (with_reducible refine (CA.out _).mono ?_); rintro e wa1 ⟨rfl, hbx⟩; have hBx := drawn_below hbx; have HZa1 := Lib.hid (HZ9.out.below hBx); have HBa1 := Lib.hid (HB9.out.trans (hBx.mono HB9.out.size)); clear hbx hBx)
      go_ret
      exact ⟨by rw [HV.out]; rfl, HBa1.out⟩
     | false =>
      go_wp2_with (go_at_call 12; (with_reducible refine (CA.out _).mono ?_); rintro e wa1 ⟨rfl, hbx⟩; have hBx := drawn_below hbx; have HZa1 := Lib.hid (HZ9.out.below hBx); have HBa1 := Lib.hid (HB9.out.trans (hBx.mono HB9.out.size)); clear hbx hBx)
      rw [rounds_succ]
      cases tb : (nk b != 0) with
      | true =>
       have HV : Hid (R = nk b) := Lib.hid (by rw [← HR.out]; simp [skV, numsV, hk, ta, tb])
       go_wp2_with (go_at_call 12; (with_reducible refine (CB.out _).mono ?_); rintro e wb1 ⟨rfl, hbx⟩; have hBx := drawn_below hbx; have HZb1 := Lib.hid (HZa1.out.below hBx); have HBb1 := Lib.hid (HBa1.out.trans (hBx.mono HBa1.out.size)); clear hbx hBx)
       go_ret
       exact ⟨by rw [HV.out]; rfl, HBb1.out⟩
      | false =>
       go_wp2_with (go_at_call 12; (with_reducible refine (CB.out _).mono ?_); rintro e wb1 ⟨rfl, hbx⟩; have hBx := drawn_below hbx; have HZb1 := Lib.hid (HZa1.out.below hBx); have HBb1 := Lib.hid (HBa1.out.trans (hBx.mono HBa1.out.size)); clear hbx hBx)
       rw [rounds_succ]
       cases tn : (nk n != 0) with
       | true =>
        have HV : Hid (R = nk n) := Lib.hid (by rw [← HR.out]; simp [skV, numsV, hk, ta, tb, tn])
        go_wp2_with (go_at_call 12; (with_reducible refine (CN.out _).mono ?_); rintro e wn1 ⟨rfl, hbx⟩; have hBx := drawn_below hbx; have HZn1 := Lib.hid (HZb1.out.below hBx); have HBn1 := Lib.hid (HBb1.out.trans (hBx.mono HBb1.out.size)); have m0 := HZn1.out.cell 0 _ rfl; have m1 := HZn1.out.cell 1 _ rfl; have m2 := HZn1.out.cell 2 _ rfl; clear hbx hBx)
        go_ret
        exact ⟨by rw [HV.out]; rfl, HBn1.out⟩
       | false =>
        go_wp2_with (go_at_call 12; (with_reducible refine (CN.out _).mono ?_); rintro e wn1 ⟨rfl, hbx⟩; have hBx := drawn_below hbx; have HZn1 := Lib.hid (HZb1.out.below hBx); have HBn1 := Lib.hid (HBb1.out.trans (hBx.mono HBb1.out.size)); have m0 := HZn1.out.cell 0 _ rfl; have m1 := HZn1.out.cell 1 _ rfl; have m2 := HZn1.out.cell 2 _ rfl; clear hbx hBx)
        rw [rounds_succ]
        go_wp2_with fail
        refine wp_loop_rounds 4 ?_
        rw [rounds_succ]
        cases ua : nb a with
        | false =>
         have HV : Hid (R = 10) := Lib.hid (by rw [← HR.out]; simp [skV, numsV, hk, ta, tb, tn, ua])
         rw [ua] at DA
         go_wp2_with (go_at_call 13; (with_reducible refine (DA.out _).mono ?_); rintro e wa2 ⟨rfl, hbx⟩; have hBx := drawn_below hbx; have HBa2 := Lib.hid (HBn1.out.trans (hBx.mono HBn1.out.size)); clear hbx hBx)
         go_ret
         exact ⟨by rw [HV.out]; rfl, HBa2.out⟩
        | true =>
         rw [ua] at DA
         go_wp2_with (go_at_call 13; (with_reducible refine (DA.out _).mono ?_); rintro e wa2 ⟨rfl, hbx⟩; have hBx := drawn_below hbx; have HBa2 := Lib.hid (HBn1.out.trans (hBx.mono HBn1.out.size)); clear hbx hBx)
         rw [rounds_succ]
         cases ub : nb b with
         | false =>
          have HV : Hid (R = 10) := Lib.hid (by rw [← HR.out]; simp [skV, numsV, hk, ta, tb, tn, ua, ub])
          rw [ub] at DB
          go_wp2_with (go_at_call 13; (with_reducible refine (DB.out _).mono ?_); rintro e wb2 ⟨rfl, hbx⟩; have hBx := drawn_below hbx; have HBb2 := Lib.hid (HBa2.out.trans (hBx.mono HBa2.out.size)); clear hbx hBx)
          go_ret
          exact ⟨by rw [HV.out]; rfl, HBb2.out⟩
         | true =>
          rw [ub] at DB
          go_wp2_with (go_at_call 13; (with_reducible refine (DB.out _).mono ?_); rintro e wb2 ⟨rfl, hbx⟩; have hBx := drawn_below hbx; have HBb2 := Lib.hid (HBa2.out.trans (hBx.mono HBa2.out.size)); clear hbx hBx)
          rw [rounds_succ]
          cases un : nb n with
          | false =>
           have HV : Hid (R = 10) := Lib.hid (by rw [← HR.out]; simp [skV, numsV, hk, ta, tb, tn, ua, ub, un])
           rw [un] at DN
           go_wp2_with (go_at_call 13; (with_reducible refine (DN.out _).mono ?_); rintro e wn2 ⟨rfl, hbx⟩; have hBx := drawn_below hbx; have HBn2 := Lib.hid (HBb2.out.trans (hBx.mono HBb2.out.size)); clear hbx hBx)
           go_ret
           exact ⟨by rw [HV.out]; rfl, HBn2.out⟩
          | true =>
           rw [un] at DN
           go_wp2_with (go_at_call 13; (with_reducible refine (DN.out _).mono ?_); rintro e wn2 ⟨rfl, hbx⟩; have hBx := drawn_below hbx; have HBn2 := Lib.hid (HBb2.out.trans (hBx.mono HBb2.out.size)); clear hbx hBx)
           rw [rounds_succ]
           have HV : Hid (R = 0) := Lib.hid (by rw [← HR.out]; simp [skV, numsV, hk, ta, tb, tn, ua, ub, un])
           go_wp2_with fail
           go_ret
           exact ⟨by rw [HV.out]; rfl, HBn2.out⟩
   | false =>
    have n0 := HZ9.out.cell 0 _ rfl; have n1 := HZ9.out.cell 1 _ rfl; have n2 := HZ9.out.cell 2 _ rfl
    have CA := Lib.hid (C7.out a (by simp)); have CB := Lib.hid (C7.out b (by simp)); have CN := Lib.hid (C7.out n (by simp))
    have DA := Lib.hid (C8.out a (by simp)); have DB := Lib.hid (C8.out b (by simp)); have DN := Lib.hid (C8.out n (by simp))
    clear C5 C6 C7 C8
    have i0 := ix0 a b n; have i1 := ix1 a b n; have i2 := ix2 a b n
    go_wp2_with fail
    refine wp_loop_rounds 4 ?_
    rw [rounds_succ]
    cases ta : (nk a != 0) with
    | true =>
     have HV : Hid (R = nk a) := Lib.hid (by rw [← HR.out]; simp [skV, numsV, ta])
     go_wp2_with (go_at_call 12; (with_reducible refine (CA.out _).mono ?_); rintro e wa1 ⟨rfl, hbx⟩; have hBx := drawn_below hbx; have HZa1 := Lib.hid (HZ9.out.below hBx); have HBa1 := Lib.hid (HB9.out.trans (hBx.mono HB9.out.size)); clear hbx hBx)
     go_ret
     exact ⟨by rw [HV.out]; rfl, HBa1.out⟩
    | false =>
     go_wp2_with (go_at_call 12; (with_reducible refine (CA.out _).mono ?_); rintro e wa1 ⟨rfl, hbx⟩; have hBx := drawn_below hbx; have HZa1 := Lib.hid (HZ9.out.below hBx); have HBa1 := Lib.hid (HB9.out.trans (hBx.mono HB9.out.size)); clear hbx hBx)
     rw [rounds_succ]
     cases tb : (nk b != 0) with
     | true =>
      have HV : Hid (R = nk b) := Lib.hid (by rw [← HR.out]; simp [skV, numsV, ta, tb])
      go_wp2_with (go_at_call 12; (with_reducible refine (CB.out _).mono ?_); rintro e wb1 ⟨rfl, hbx⟩; have hBx := drawn_below hbx; have HZb1 := Lib.hid (HZa1.out.below hBx); have HBb1 := Lib.hid (HBa1.out.trans (hBx.mono HBa1.out.size)); clear hbx hBx)
      go_ret
      exact ⟨by rw [HV.out]; rfl, HBb1.out⟩
     | false =>
      go_wp2_with (go_at_call 12; (with_reducible refine (CB.out _).mono ?_); rintro e wb1 ⟨rfl, hbx⟩; have hBx := drawn_below hbx; have HZb1 := Lib.hid (HZa1.out.below hBx); have HBb1 := Lib.hid (HBa1.out.trans (hBx.mono HBa1.out.size)); clear hbx hBx)
      rw [rounds_succ]
      cases tn : (nk n != 0) with
      | true =>
       have HV : Hid (R = nk n) := Lib.hid (by rw [← HR.out]; simp [skV, numsV, ta, tb, tn])
       go_wp2_with (go_at_call 12; (with_reducible refine (CN.out _).mono ?_); rintro e wn1 ⟨rfl, hbx⟩; have hBx := drawn_below hbx; have HZn1 := Lib.hid (HZb1.out.below hBx); have HBn1 := Lib.hid (HBb1.out.trans (hBx.mono HBb1.out.size)); have m0 := HZn1.out.cell 0 _ rfl; have m1 := HZn1.out.cell 1 _ rfl; have m2 := HZn1.out.cell 2 _ rfl; clear hbx hBx)
       go_ret
       exact ⟨by rw [HV.out]; rfl, HBn1.out⟩
      | false =>
       go_wp2_with (go_at_call 12; (with_reducible refine (CN.out _).mono ?_); rintro e wn1 ⟨rfl, hbx⟩; have hBx := drawn_below hbx; have HZn1 := Lib.hid (HZb1.out.below hBx); have HBn1 := Lib.hid (HBb1.out.trans (hBx.mono HBb1.out.size)); have m0 := HZn1.out.cell 0 _ rfl; have m1 := HZn1.out.cell 1 _ rfl; have m2 := HZn1.out.cell 2 _ rfl; clear hbx hBx)
       rw [rounds_succ]
       go_wp2_with fail
       refine wp_loop_rounds 4 ?_
       rw [rounds_succ]
       cases ua : nb a with
       | false =>
        have HV : Hid (R = 10) := Lib.hid (by rw [← HR.out]; simp [skV, numsV, ta, tb, tn, ua])
        rw [ua] at DA
        go_wp2_with (go_at_call 13; (with_reducible refine (DA.out _).mono ?_); rintro e wa2 ⟨rfl, hbx⟩; have hBx := drawn_below hbx; have HBa2 := Lib.hid (HBn1.out.trans (hBx.mono HBn1.out.size)); clear hbx hBx)
        go_ret
        exact ⟨by rw [HV.out]; rfl, HBa2.out⟩
       | true =>
        rw [ua] at DA
        go_wp2_with (go_at_call 13; (with_reducible refine (DA.out _).mono ?_); rintro e wa2 ⟨rfl, hbx⟩; have hBx := drawn_below hbx; have HBa2 := Lib.hid (HBn1.out.trans (hBx.mono HBn1.out.size)); clear hbx hBx)
        rw [rounds_succ]
        cases ub : nb b with
        | false =>
         have HV : Hid (R = 10) := Lib.hid (by rw [← HR.out]; simp [skV, numsV, ta, tb, tn, ua, ub])
         rw [ub] at DB
         go_wp2_with (go_at_call 13; (with_reducible refine (DB.out _).mono ?_); rintro e wb2 ⟨rfl, hbx⟩; have hBx := drawn_below hbx; have HBb2 := Lib.hid (HBa2.out.trans (hBx.mono HBa2.out.size)); clear hbx hBx)
         go_ret
         exact ⟨by rw [HV.out]; rfl, HBb2.out⟩
        | true =>
         rw [ub] at DB
         go_wp2_with (go_at_call 13; (with_reducible refine (DB.out _).mono ?_); rintro e wb2 ⟨rfl, hbx⟩; have hBx := drawn_below hbx; have HBb2 := Lib.hid (HBa2.out.trans (hBx.mono HBa2.out.size)); clear hbx hBx)
         rw [rounds_succ]
         cases un : nb n with
         | false =>
          have HV : Hid (R = 10) := Lib.hid (by rw [← HR.out]; simp [skV, numsV, ta, tb, tn, ua, ub, un])
          rw [un] at DN
          go_wp2_with (go_at_call 13; (with_reducible refine (DN.out _).mono ?_); rintro e wn2 ⟨rfl, hbx⟩; have hBx := drawn_below hbx; have HBn2 := Lib.hid (HBb2.out.trans (hBx.mono HBb2.out.size)); clear hbx hBx)
          go_ret
          exact ⟨by rw [HV.out]; rfl, HBn2.out⟩
         | true =>
          rw [un] at DN
          go_wp2_with (go_at_call 13; (with_reducible refine (DN.out _).mono ?_); rintro e wn2 ⟨rfl, hbx⟩; have hBx := drawn_below hbx; have HBn2 := Lib.hid (HBb2.out.trans (hBx.mono HBb2.out.size)); clear hbx hBx)
          rw [rounds_succ]
          have HV : Hid (R = 0) := Lib.hid (by rw [← HR.out]; simp [skV, numsV, ta, tb, tn, ua, ub, un])
          go_wp2_with fail
          go_ret
          exact ⟨by rw [HV.out]; rfl, HBn2.out⟩
 | false =>
  go_upto_region 13 with fail
  have HZ8 := HZ7; have HB8 := HB7
  go_upto_region 14 with (go_at_call 11; (with_reducible refine (C6.out _).mono ?_); rintro e w9 ⟨rfl, hb9⟩; have HZ9 := Lib.hid (HZ8.out.below hb9); have HB9 := Lib.hid (HB8.out.trans (hb9.mono HB8.out.size)); clear hb9)
  cases hy with
  | true =>
   cases hk : (pk != 0) with
   | true =>
    have HV : Hid (R = pk) := Lib.hid (by rw [← HR.out]; simp [skV, numsV, hk])
    go_wp2_with fail
    go_ret
    exact ⟨by rw [HV.out]; rfl, HB9.out⟩
   | false =>
    have n0 := HZ9.out.cell 0 _ rfl; have n1 := HZ9.out.cell 1 _ rfl; have n2 := HZ9.out.cell 2 _ rfl
    have CA := Lib.hid (C7.out a (by simp)); have CB := Lib.hid (C7.out b (by simp)); have CN := Lib.hid (C7.out n (by simp))
    have DA := Lib.hid (C8.out a (by simp)); have DB := Lib.hid (C8.out b (by simp)); have DN := Lib.hid (C8.out n (by simp))
    clear C5 C6 C7 C8
    have i0 := ix0 a b n; have i1 := ix1 a b n; have i2 := ix2 a b n
    go_wp2_with fail
    refine wp_loop_rounds 4 ?_
    rw [rounds_succ]
    cases ta : (nk a != 0) with
    | true =>
     have HV : Hid (R = nk a) := Lib.hid (by rw [← HR.out]; simp [skV, numsV, hk, ta])
     go_wp2_with (go_at_call 12; (with_reducible refine (CA.out _).mono ?_); rintro e wa1 ⟨rfl, hbx⟩; have hBx := drawn_below hbx; have HZa1 := Lib.hid (HZ9.out.below hBx); have HBa1 := Lib.hid (HB9.out.trans (hBx.mono HB9.out.size)); clear hbx hBx)
     go_ret
     exact ⟨by rw [HV.out]; rfl, HBa1.out⟩
    | false =>
     go_wp2_with (go_at_call 12; (with_reducible refine (CA.out _).mono ?_); rintro e wa1 ⟨rfl, hbx⟩; have hBx := drawn_below hbx; have HZa1 := Lib.hid (HZ9.out.below hBx); have HBa1 := Lib.hid (HB9.out.trans (hBx.mono HB9.out.size)); clear hbx hBx)
     rw [rounds_succ]
     cases tb : (nk b != 0) with
     | true =>
      have HV : Hid (R = nk b) := Lib.hid (by rw [← HR.out]; simp [skV, numsV, hk, ta, tb])
      go_wp2_with (go_at_call 12; (with_reducible refine (CB.out _).mono ?_); rintro e wb1 ⟨rfl, hbx⟩; have hBx := drawn_below hbx; have HZb1 := Lib.hid (HZa1.out.below hBx); have HBb1 := Lib.hid (HBa1.out.trans (hBx.mono HBa1.out.size)); clear hbx hBx)
      go_ret
      exact ⟨by rw [HV.out]; rfl, HBb1.out⟩
     | false =>
      go_wp2_with (go_at_call 12; (with_reducible refine (CB.out _).mono ?_); rintro e wb1 ⟨rfl, hbx⟩; have hBx := drawn_below hbx; have HZb1 := Lib.hid (HZa1.out.below hBx); have HBb1 := Lib.hid (HBa1.out.trans (hBx.mono HBa1.out.size)); clear hbx hBx)
      rw [rounds_succ]
      cases tn : (nk n != 0) with
      | true =>
       have HV : Hid (R = nk n) := Lib.hid (by rw [← HR.out]; simp [skV, numsV, hk, ta, tb, tn])
       go_wp2_with (go_at_call 12; (with_reducible refine (CN.out _).mono ?_); rintro e wn1 ⟨rfl, hbx⟩; have hBx := drawn_below hbx; have HZn1 := Lib.hid (HZb1.out.below hBx); have HBn1 := Lib.hid (HBb1.out.trans (hBx.mono HBb1.out.size)); have m0 := HZn1.out.cell 0 _ rfl; have m1 := HZn1.out.cell 1 _ rfl; have m2 := HZn1.out.cell 2 _ rfl; clear hbx hBx)
       go_ret
       exact ⟨by rw [HV.out]; rfl, HBn1.out⟩
      | false =>
       go_wp2_with (go_at_call 12; (with_reducible refine (CN.out _).mono ?_); rintro e wn1 ⟨rfl, hbx⟩; have hBx := drawn_below hbx; have HZn1 := Lib.hid (HZb1.out.below hBx); have HBn1 := Lib.hid (HBb1.out.trans (hBx.mono HBb1.out.size)); have m0 := HZn1.out.cell 0 _ rfl; have m1 := HZn1.out.cell 1 _ rfl; have m2 := HZn1.out.cell 2 _ rfl; clear hbx hBx)
       rw [rounds_succ]
       go_wp2_with fail
       refine wp_loop_rounds 4 ?_
       rw [rounds_succ]
       cases ua : nb a with
       | false =>
        have HV : Hid (R = 10) := Lib.hid (by rw [← HR.out]; simp [skV, numsV, hk, ta, tb, tn, ua])
        rw [ua] at DA
        go_wp2_with (go_at_call 13; (with_reducible refine (DA.out _).mono ?_); rintro e wa2 ⟨rfl, hbx⟩; have hBx := drawn_below hbx; have HBa2 := Lib.hid (HBn1.out.trans (hBx.mono HBn1.out.size)); clear hbx hBx)
        go_ret
        exact ⟨by rw [HV.out]; rfl, HBa2.out⟩
       | true =>
        rw [ua] at DA
        go_wp2_with (go_at_call 13; (with_reducible refine (DA.out _).mono ?_); rintro e wa2 ⟨rfl, hbx⟩; have hBx := drawn_below hbx; have HBa2 := Lib.hid (HBn1.out.trans (hBx.mono HBn1.out.size)); clear hbx hBx)
        rw [rounds_succ]
        cases ub : nb b with
        | false =>
         have HV : Hid (R = 10) := Lib.hid (by rw [← HR.out]; simp [skV, numsV, hk, ta, tb, tn, ua, ub])
         rw [ub] at DB
         go_wp2_with (go_at_call 13; (with_reducible refine (DB.out _).mono ?_); rintro e wb2 ⟨rfl, hbx⟩; have hBx := drawn_below hbx; have HBb2 := Lib.hid (HBa2.out.trans (hBx.mono HBa2.out.size)); clear hbx hBx)
         go_ret
         exact ⟨by rw [HV.out]; rfl, HBb2.out⟩
        | true =>
         rw [ub] at DB
         go_wp2_with (go_at_call 13; (with_reducible refine (DB.out _).mono ?_); rintro e wb2 ⟨rfl, hbx⟩; have hBx := drawn_below hbx; have HBb2 := Lib.hid (HBa2.out.trans (hBx.mono HBa2.out.size)); clear hbx hBx)
         rw [rounds_succ]
         cases un : nb n with
         | false =>
          have HV : Hid (R = 10) := Lib.hid (by rw [← HR.out]; simp [skV, numsV, hk, ta, tb, tn, ua, ub, un])
          rw [un] at DN
          go_wp2_with (go_at_call 13; (with_reducible refine (DN.out _).mono ?_); rintro e wn2 ⟨rfl, hbx⟩; have hBx := drawn_below hbx; have HBn2 := Lib.hid (HBb2.out.trans (hBx.mono HBb2.out.size)); clear hbx hBx)
          go_ret
          exact ⟨by rw [HV.out]; rfl, HBn2.out⟩
         | true =>
          rw [un] at DN
          go_wp2_with (go_at_call 13; (with_reducible refine (DN.out _).mono ?_); rintro e wn2 ⟨rfl, hbx⟩; have hBx := drawn_below hbx; have HBn2 := Lib.hid (HBb2.out.trans (hBx.mono HBb2.out.size)); clear hbx hBx)
          rw [rounds_succ]
          have HV : Hid (R = 0) := Lib.hid (by rw [← HR.out]; simp [skV, numsV, hk, ta, tb, tn, ua, ub, un])
          go_wp2_with fail
          go_ret
          exact ⟨by rw [HV.out]; rfl, HBn2.out⟩
  | false =>
   have n0 := HZ9.out.cell 0 _ rfl; have n1 := HZ9.out.cell 1 _ rfl; have n2 := HZ9.out.cell 2 _ rfl
   have CA := Lib.hid (C7.out a (by simp)); have CB := Lib.hid (C7.out b (by simp)); have CN := Lib.hid (C7.out n (by simp))
   have DA := Lib.hid (C8.out a (by simp)); have DB := Lib.hid (C8.out b (by simp)); have DN := Lib.hid (C8.out n (by simp))
   clear C5 C6 C7 C8
   have i0 := ix0 a b n; have i1 := ix1 a b n; have i2 := ix2 a b n
   go_wp2_with fail
   refine wp_loop_rounds 4 ?_
   rw [rounds_succ]
   cases ta : (nk a != 0) with
   | true =>
    have HV : Hid (R = nk a) := Lib.hid (by rw [← HR.out]; simp [skV, numsV, ta])
    go_wp2_with (go_at_call 12; (with_reducible refine (CA.out _).mono ?_); rintro e wa1 ⟨rfl, hbx⟩; have hBx := drawn_below hbx; have HZa1 := Lib.hid (HZ9.out.below hBx); have HBa1 := Lib.hid (HB9.out.trans (hBx.mono HB9.out.size)); clear hbx hBx)
    go_ret
    exact ⟨by rw [HV.out]; rfl, HBa1.out⟩
   | false =>
    go_wp2_with (go_at_call 12; (with_reducible refine (CA.out _).mono ?_); rintro e wa1 ⟨rfl, hbx⟩; have hBx := drawn_below hbx; have HZa1 := Lib.hid (HZ9.out.below hBx); have HBa1 := Lib.hid (HB9.out.trans (hBx.mono HB9.out.size)); clear hbx hBx)
    rw [rounds_succ]
    cases tb : (nk b != 0) with
    | true =>
     have HV : Hid (R = nk b) := Lib.hid (by rw [← HR.out]; simp [skV, numsV, ta, tb])
     go_wp2_with (go_at_call 12; (with_reducible refine (CB.out _).mono ?_); rintro e wb1 ⟨rfl, hbx⟩; have hBx := drawn_below hbx; have HZb1 := Lib.hid (HZa1.out.below hBx); have HBb1 := Lib.hid (HBa1.out.trans (hBx.mono HBa1.out.size)); clear hbx hBx)
     go_ret
     exact ⟨by rw [HV.out]; rfl, HBb1.out⟩
    | false =>
     go_wp2_with (go_at_call 12; (with_reducible refine (CB.out _).mono ?_); rintro e wb1 ⟨rfl, hbx⟩; have hBx := drawn_below hbx; have HZb1 := Lib.hid (HZa1.out.below hBx); have HBb1 := Lib.hid (HBa1.out.trans (hBx.mono HBa1.out.size)); clear hbx hBx)
     rw [rounds_succ]
     cases tn : (nk n != 0) with
     | true =>
      have HV : Hid (R = nk n) := Lib.hid (by rw [← HR.out]; simp [skV, numsV, ta, tb, tn])
      go_wp2_with (go_at_call 12; (with_reducible refine (CN.out _).mono ?_); rintro e wn1 ⟨rfl, hbx⟩; have hBx := drawn_below hbx; have HZn1 := Lib.hid (HZb1.out.below hBx); have HBn1 := Lib.hid (HBb1.out.trans (hBx.mono HBb1.out.size)); have m0 := HZn1.out.cell 0 _ rfl; have m1 := HZn1.out.cell 1 _ rfl; have m2 := HZn1.out.cell 2 _ rfl; clear hbx hBx)
      go_ret
      exact ⟨by rw [HV.out]; rfl, HBn1.out⟩
     | false =>
      go_wp2_with (go_at_call 12; (with_reducible refine (CN.out _).mono ?_); rintro e wn1 ⟨rfl, hbx⟩; have hBx := drawn_below hbx; have HZn1 := Lib.hid (HZb1.out.below hBx); have HBn1 := Lib.hid (HBb1.out.trans (hBx.mono HBb1.out.size)); have m0 := HZn1.out.cell 0 _ rfl; have m1 := HZn1.out.cell 1 _ rfl; have m2 := HZn1.out.cell 2 _ rfl; clear hbx hBx)
      rw [rounds_succ]
      go_wp2_with fail
      refine wp_loop_rounds 4 ?_
      rw [rounds_succ]
      cases ua : nb a with
      | false =>
       have HV : Hid (R = 10) := Lib.hid (by rw [← HR.out]; simp [skV, numsV, ta, tb, tn, ua])
       rw [ua] at DA
       go_wp2_with (go_at_call 13; (with_reducible refine (DA.out _).mono ?_); rintro e wa2 ⟨rfl, hbx⟩; have hBx := drawn_below hbx; have HBa2 := Lib.hid (HBn1.out.trans (hBx.mono HBn1.out.size)); clear hbx hBx)
       go_ret
       exact ⟨by rw [HV.out]; rfl, HBa2.out⟩
      | true =>
       rw [ua] at DA
       go_wp2_with (go_at_call 13; (with_reducible refine (DA.out _).mono ?_); rintro e wa2 ⟨rfl, hbx⟩; have hBx := drawn_below hbx; have HBa2 := Lib.hid (HBn1.out.trans (hBx.mono HBn1.out.size)); clear hbx hBx)
       rw [rounds_succ]
       cases ub : nb b with
       | false =>
        have HV : Hid (R = 10) := Lib.hid (by rw [← HR.out]; simp [skV, numsV, ta, tb, tn, ua, ub])
        rw [ub] at DB
        go_wp2_with (go_at_call 13; (with_reducible refine (DB.out _).mono ?_); rintro e wb2 ⟨rfl, hbx⟩; have hBx := drawn_below hbx; have HBb2 := Lib.hid (HBa2.out.trans (hBx.mono HBa2.out.size)); clear hbx hBx)
        go_ret
        exact ⟨by rw [HV.out]; rfl, HBb2.out⟩
       | true =>
        rw [ub] at DB
        go_wp2_with (go_at_call 13; (with_reducible refine (DB.out _).mono ?_); rintro e wb2 ⟨rfl, hbx⟩; have hBx := drawn_below hbx; have HBb2 := Lib.hid (HBa2.out.trans (hBx.mono HBa2.out.size)); clear hbx hBx)
        rw [rounds_succ]
        cases un : nb n with
        | false =>
         have HV : Hid (R = 10) := Lib.hid (by rw [← HR.out]; simp [skV, numsV, ta, tb, tn, ua, ub, un])
         rw [un] at DN
         go_wp2_with (go_at_call 13; (with_reducible refine (DN.out _).mono ?_); rintro e wn2 ⟨rfl, hbx⟩; have hBx := drawn_below hbx; have HBn2 := Lib.hid (HBb2.out.trans (hBx.mono HBb2.out.size)); clear hbx hBx)
         go_ret
         exact ⟨by rw [HV.out]; rfl, HBn2.out⟩
        | true =>
         rw [un] at DN
         go_wp2_with (go_at_call 13; (with_reducible refine (DN.out _).mono ?_); rintro e wn2 ⟨rfl, hbx⟩; have hBx := drawn_below hbx; have HBn2 := Lib.hid (HBb2.out.trans (hBx.mono HBb2.out.size)); clear hbx hBx)
         rw [rounds_succ]
         have HV : Hid (R = 0) := Lib.hid (by rw [← HR.out]; simp [skV, numsV, ta, tb, tn, ua, ub, un])
         go_wp2_with fail
         go_ret
         exact ⟨by rw [HV.out]; rfl, HBn2.out⟩

end Go.Proofs.YtnncjgoogjookaaDoor.Rxw
