/- The row and the tied card of FnSemverLooseStrict, out of its printed walk and its plain law. For every input that the statement lets in. -/
import Derived.Test.YtjgedenoaocfjaaGreatDoorZCardSemverLooseStrict9
import Derived.Test.YtjgedenoaocfjaaGreatDoorZCardSemverLooseStrict12
import Derived.Test.YtjgedenoaocfjaaGreatDoorZCardSemverLooseStrict13
import Derived.Test.YtjgedenoaocfjaaGreatDoorZCardSemverLooseStrict22
import Derived.Test.YtjgedenoaocfjaaGreatDoorZCardSemverLooseStrict23
import Derived.Test.YtjgedenoaocfjaaGreatDoorZCardSemverLooseStrict24
import Derived.Test.YtjgedenoaocfjaaGreatDoorZCardSemverLooseStrict27
import Derived.Test.YtjgedenoaocfjaaGreatDoorZCardSemverLooseStrict40
import Derived.Deep.DeepCutAuto
namespace Go.Proofs.YtjgedenoaocfjaaGreatDoor.Ascii
end Go.Proofs.YtjgedenoaocfjaaGreatDoor.Ascii
namespace Go.Proofs.YtjgedenoaocfjaaGreatDoor.Base
end Go.Proofs.YtjgedenoaocfjaaGreatDoor.Base
namespace Go.Proofs.YtjgedenoaocfjaaGreatDoor.Bt
end Go.Proofs.YtjgedenoaocfjaaGreatDoor.Bt
namespace Go.Proofs.YtjgedenoaocfjaaGreatDoor.KX
end Go.Proofs.YtjgedenoaocfjaaGreatDoor.KX
namespace Go.Proofs.YtjgedenoaocfjaaGreatDoor.L
end Go.Proofs.YtjgedenoaocfjaaGreatDoor.L
namespace Go.Proofs.YtjgedenoaocfjaaGreatDoor.MetaX
end Go.Proofs.YtjgedenoaocfjaaGreatDoor.MetaX
namespace Go.Proofs.YtjgedenoaocfjaaGreatDoor.PX
end Go.Proofs.YtjgedenoaocfjaaGreatDoor.PX
namespace Go.Proofs.YtjgedenoaocfjaaGreatDoor.Parse
end Go.Proofs.YtjgedenoaocfjaaGreatDoor.Parse
namespace Go.Proofs.YtjgedenoaocfjaaGreatDoor.Rx
end Go.Proofs.YtjgedenoaocfjaaGreatDoor.Rx
namespace Go.Proofs.YtjgedenoaocfjaaGreatDoor.SemC
end Go.Proofs.YtjgedenoaocfjaaGreatDoor.SemC
namespace Go.Proofs.YtjgedenoaocfjaaGreatDoor.Rxw

open Go Go.RowKit Go.Lib Go.Proofs Go.Proofs.YtjgedenoaocfjaaGreatDoor Go.Proofs.YtjgedenoaocfjaaGreatDoor.Base Go.Proofs.YtjgedenoaocfjaaGreatDoor.Rx Go.Proofs.YtjgedenoaocfjaaGreatDoor.L Go.Proofs.YtjgedenoaocfjaaGreatDoor.Parse Go.Proofs.YtjgedenoaocfjaaGreatDoor.PX Go.Proofs.YtjgedenoaocfjaaGreatDoor.SemC

open Go.Proofs.YtjgedenoaocfjaaGreatDoorW.PrintWords Go.Proofs.YtjgedenoaocfjaaGreatDoorW.PrintLast Go.Proofs.YtjgedenoaocfjaaGreatDoorW.PrintMore

open Go.Proofs.YtjgedenoaocfjaaGreatDoor.Bt (toList_bl)

theorem trimDot (s : ByteArray) (r : List UInt8) (h : bl s = 46 :: r) : strings_TrimPrefix.f s ⟨#[46]⟩ = some (ofL r) := by
  have hs : s.size = r.length + 1 := by rw [← bl_len, h]; rfl
  have e1 : (((⟨#[46]⟩ : ByteArray).size : Nat) : Int) = 1 := rfl
  unfold strings_TrimPrefix.f stringslite_TrimPrefix.f stringslite_HasPrefix.f
  rw [e1, if_pos (by omega), if_pos (by omega), if_pos (by omega), Option.bind_some]
  have e2 : ((s.extract 0 ((1 : Int)).toNat).toList == (⟨#[46]⟩ : ByteArray).toList) = true := by
    rw [show (1 : Int).toNat = 1 from rfl, extract_head, toList_bl, bl_ofL, h, toList_bl]; rfl
  rw [e2, if_pos rfl, if_pos (by omega), if_pos (by omega), Option.bind_some, show (1 : Int).toNat = 1 from rfl, extract_end, h]
  rfl

theorem drawn_below {w w' : World} (h : Drawn0 w w') : Below w.heap.size w w' := by
  obtain ⟨n, rfl⟩ := h
  exact dN (Below.refl _ _) n

/-- What the groups of a text are. -/
def Grps (s : ByteArray) (t : Nat → ByteArray) (W : World) (e : Ending) (w' : World) : Prop := ∃ g, e = .returned (.slice (some ⟨g, 0, none⟩) 10 10) ∧ W.heap.size ≤ g ∧ Row w' g 9 [.string (t 0), .string (t 1), .string (t 2), .string (t 3), .string (t 4), .string (t 5), .string (t 6), .string (t 7), .string (t 8), .string (t 9)] ∧ Below W.heap.size W w'

def NewVer (a b c : Nat) (p m o : ByteArray) (w : World) (e : Ending) (w' : World) : Prop := ∃ g, e = .returned (.tuple #[.pointer (some ⟨g, 0, none⟩), .nilIface]) ∧ Row w' g 70 [.int .u64 (a : Int), .int .u64 (b : Int), .int .u64 (c : Int), .string p, .string m, .string o] ∧ w.heap.size ≤ g ∧ Below w.heap.size w w'

/-- In the middle: the groups and the version. -/
structure Mid (w : World) (gm g : Nat) (ms vs : List Value) (wx : World) : Prop where
  m : Row wx gm 9 ms
  v : Row wx g 70 vs
  bel : Below w.heap.size w wx
  lm : w.heap.size ≤ gm
  lg : w.heap.size ≤ g

theorem Mid.below {w wx wy : World} {gm g : Nat} {ms vs : List Value} (h : Mid w gm g ms vs wx) (hb : Below wx.heap.size wx wy) : Mid w gm g ms vs wy := ⟨h.m.below hb, h.v.below hb, h.bel.trans (hb.mono h.bel.size), h.lm, h.lg⟩

theorem Mid.set {w wx : World} {gm g : Nat} {ms vs : List Value} (h : Mid w gm g ms vs wx) (i : Nat) (hi : i < vs.length) (y : Value) : Mid w gm g ms (vs.set i y) (wx.setCell ⟨g, i, none⟩ y) :=
  ⟨h.m.far _ (row_ne h.m h.v (by decide)) _, h.v.set i hi y, h.bel.setCell h.lg _, h.lm, h.lg⟩

set_option maxHeartbeats 8000000 in
set_option maxRecDepth 100000 in
theorem coerceW (s : ByteArray) (t : Nat → ByteArray) (na nb nc : Nat)
  (hf : ∀ (W : World) (re pr ib cN : Nat), Rgx W re pr ib cN loose 1 20 9 4 1 → Calls Tryz.prog 70 #[ptr re, .string s] W (Grps s t W))
  (hz : ∀ k, (t k).size ≤ 1000) (h1 : num (bl (t 1)) = some na) (h2 : (bl (t 2) = [] ∧ nb = 0) ∨ ∃ r, bl (t 2) = 46 :: r ∧ num r = some nb) (h3 : (bl (t 3) = [] ∧ nc = 0) ∨ ∃ r, bl (t 3) = 46 :: r ∧ num r = some nc)
  (h5 : bl (t 5) = [] ∨ preOk (bl (t 5)) = true) (h8 : bl (t 8) = [] ∨ metaOk (bl (t 8)) = true) (w : World) (hStd : Std w) (hSem : Sem w) :
  Calls Tryz.prog 62 #[.string s] w (NewVer na nb nc (t 5) (t 8) s w) := by
 unfold Grps at hf
 have hz1 := hz 1; have hz2 := hz 2; have hz3 := hz 3; have hz5 := hz 5; have hz8 := hz 8
 generalize t 0 = t0 at *; generalize t 1 = t1 at *; generalize t 2 = t2 at *; generalize t 3 = t3 at *; generalize t 4 = t4 at *
 generalize t 5 = t5 at *; generalize t 6 = t6 at *; generalize t 7 = t7 at *; generalize t 8 = t8 at *; generalize t 9 = t9 at *
 clear hz
 have CF := Lib.hid hf; have HS := Lib.hid hStd; have HE := Lib.hid hSem
 have Z1 := Lib.hid hz1; have Z2 := Lib.hid hz2; have Z3 := Lib.hid hz3; have Z5 := Lib.hid hz5; have Z8 := Lib.hid hz8
 have H1 := Lib.hid h1; have H2 := Lib.hid h2; have H3 := Lib.hid h3; have H5 := Lib.hid h5; have H8 := Lib.hid h8
 have CL := Lib.hid zzLoose
 clear hf hStd hSem hz1 hz2 hz3 hz5 hz8 h1 h2 h3 h5 h8
 go_enter Tryz.func62, Tryz.ntmps62
 go_upto_region 2 with (first
  | (go_at_call 82; (with_reducible refine (CL.out _).mono ?_); rintro e w1 ⟨re, pr, ib, cN, rfl, hR, hb1⟩; have HR := Lib.hid hR; have HB1 := Lib.hid hb1; clear hR hb1)
  | (go_at_call 70; (with_reducible refine (CF.out _ _ _ _ _ HR.out).mono ?_); rintro e w2 ⟨gm, rfl, hgm, hm, hb2⟩; have HM : Hid (w.heap.size ≤ gm ∧ Row w2 gm 9 [.string t0, .string t1, .string t2, .string t3, .string t4, .string t5, .string t6, .string t7, .string t8, .string t9]) := Lib.hid ⟨Nat.le_trans HB1.out.size hgm, hm⟩; have HB2 : Hid (Below w.heap.size w w2) := Lib.hid (HB1.out.trans (hb2.mono HB1.out.size)); clear hgm hm hb2))
 have hnil : ∀ W : World, (binOp .eql 46 (.slice (some ⟨gm, 0, none⟩) 10 10) (.slice none 0 0)).run Tryz.prog W = .ok (.bool false) W := fun W => run_eql_slice_nil W _ _ _ _ _ Tryz.underlying46
 have m8 := HM.out.2.cell 8 _ rfl
 have m5 := HM.out.2.cell 5 _ rfl
 go_upto_region 4 with fail
 go_region
 have hM3 : Mid w gm w2.heap.size [.string t0, .string t1, .string t2, .string t3, .string t4, .string t5, .string t6, .string t7, .string t8, .string t9] [.int .u64 0, .int .u64 0, .int .u64 0, .string t5, .string t8, .string s]
   (w2.alloc (.cells #[.int .u64 0, .int .u64 0, .int .u64 0, .string t5, .string t8, .string s] 70)).drew :=
  ⟨HM.out.2.below ((Below.refl _ w2).alloc (Nat.le_refl _) _).drew, Row.new w2 _ _, (HB2.out.alloc HB2.out.size _).drew, HM.out.1, HB2.out.size⟩
 generalize (w2.alloc _).drew = w3 at *
 generalize hg : w2.heap.size = g at *
 clear hg m8 m5 HM HB2 HR HB1 hnil CF CL
 have M3 := Lib.hid hM3
 have m1 := hM3.m.cell 1 _ rfl
 clear hM3
 have C1 := Lib.hid fun W => parse_ok t1 (by have := Z1.out; omega) na H1.out W
 go_upto_if 38 with (go_at_call 61; (with_reducible refine (C1.out _).mono ?_); rintro e w4 ⟨rfl, hb4⟩; have hM4 := M3.out.below hb4; have v0 := hM4.v.cell 0 _ rfl; have f0 := hM4.v.free 0; have x2 := hM4.m.cell 2 _ rfl; have M4 := Lib.hid hM4; clear hM4 hb4)
 have hM5 := M4.out.set 0 (by simp) (.int .u64 (na : Int))
 generalize World.setCell w4 _ _ = w5 at *
 have M5 := Lib.hid hM5
 clear hM5 M3 M4 v0 f0 x2 m1 C1
 obtain ⟨q, hq⟩ : ∃ q, (!t2.toList.isEmpty) = q := ⟨_, rfl⟩
 rw [hq]
 go_cut [] (fun wx => Hid (Mid w gm g [.string t0, .string t1, .string t2, .string t3, .string t4, .string t5, .string t6, .string t7, .string t8, .string t9] [.int .u64 (na : Int), .int .u64 (nb : Int), .int .u64 0, .string t5, .string t8, .string s] wx))
 case first =>
  have x := M5.out.m.cell 2 _ rfl
  have v := M5.out.v.cell 1 _ rfl
  have f := M5.out.v.free 1
  rcases H2.out with ⟨h, hn⟩ | ⟨r, h, hn⟩
  ·
   obtain rfl : q = false := by rw [← hq, toList_bl, h]; rfl
   subst hn
   clear h hq
   go_wp2_with fail
   go_meet
   exact Lib.hid (M5.out.set 1 (by simp) _)
  ·
   obtain rfl : q = true := by rw [← hq, toList_bl, h]; rfl
   have CT := Lib.hid fun W => strings_TrimPrefix.calls t2 ⟨#[46]⟩ (ofL r) W (trimDot t2 r h)
   have CP := Lib.hid fun W => parse_ok (ofL r) (by have := Z2.out; have hl := congrArg List.length h; rw [bl_len] at hl; rw [size_ofL]; simp at hl; omega) nb hn W
   clear h hn hq v f
   go_wp2_with (first
    | (go_at_call 73; (with_reducible refine (CT.out _).mono ?_); rintro e wt ⟨rfl, hbt⟩; have hMt := M5.out.below (drawn_below hbt); have Mt := Lib.hid hMt; clear hMt hbt)
    | (go_at_call 61; (with_reducible refine (CP.out _).mono ?_); rintro e wp ⟨rfl, hbp⟩; have hMp := Mt.out.below hbp; have vp := hMp.v.cell 1 _ rfl; have fp := hMp.v.free 1; have Mp := Lib.hid hMp; clear hMp hbp))
   go_meet
   exact Lib.hid (Mp.out.set 1 (by simp) _)
 clear M5 H2 hq q
 have M6 := hcut
 have x3 := M6.out.m.cell 3 _ rfl
 go_upto_if 59 with fail
 clear x3
 obtain ⟨q, hq⟩ : ∃ q, (!t3.toList.isEmpty) = q := ⟨_, rfl⟩
 rw [hq]
 go_cut [] (fun wx => Hid (Mid w gm g [.string t0, .string t1, .string t2, .string t3, .string t4, .string t5, .string t6, .string t7, .string t8, .string t9] [.int .u64 (na : Int), .int .u64 (nb : Int), .int .u64 (nc : Int), .string t5, .string t8, .string s] wx))
 case first =>
  have x := M6.out.m.cell 3 _ rfl
  have v := M6.out.v.cell 2 _ rfl
  have f := M6.out.v.free 2
  rcases H3.out with ⟨h, hn⟩ | ⟨r, h, hn⟩
  ·
   obtain rfl : q = false := by rw [← hq, toList_bl, h]; rfl
   subst hn
   clear h hq
   go_wp2_with fail
   go_meet
   exact Lib.hid (M6.out.set 2 (by simp) _)
  ·
   obtain rfl : q = true := by rw [← hq, toList_bl, h]; rfl
   have CT := Lib.hid fun W => strings_TrimPrefix.calls t3 ⟨#[46]⟩ (ofL r) W (trimDot t3 r h)
   have CP := Lib.hid fun W => parse_ok (ofL r) (by have := Z3.out; have hl := congrArg List.length h; rw [bl_len] at hl; rw [size_ofL]; simp at hl; omega) nc hn W
   clear h hn hq v f
   go_wp2_with (first
    | (go_at_call 73; (with_reducible refine (CT.out _).mono ?_); rintro e wt ⟨rfl, hbt⟩; have hMt := M6.out.below (drawn_below hbt); have Mt := Lib.hid hMt; clear hMt hbt)
    | (go_at_call 61; (with_reducible refine (CP.out _).mono ?_); rintro e wp ⟨rfl, hbp⟩; have hMp := Mt.out.below hbp; have vp := hMp.v.cell 2 _ rfl; have fp := hMp.v.free 2; have Mp := Lib.hid hMp; clear hMp hbp))
   go_meet
   exact Lib.hid (Mp.out.set 2 (by simp) _)
 clear M6 H3 hq q
 have M7 := hcut
 have x3 := M7.out.v.cell 3 _ rfl
 go_upto_if 81 with fail
 obtain ⟨q, hq⟩ : ∃ q, (!t5.toList.isEmpty) = q := ⟨_, rfl⟩
 rw [hq]
 go_cut [] (fun wx => Hid (Mid w gm g [.string t0, .string t1, .string t2, .string t3, .string t4, .string t5, .string t6, .string t7, .string t8, .string t9] [.int .u64 (na : Int), .int .u64 (nb : Int), .int .u64 (nc : Int), .string t5, .string t8, .string s] wx))
 case first =>
  rcases H5.out with h | h
  ·
   obtain rfl : q = false := by rw [← hq, toList_bl, h]; rfl
   clear h hq
   go_wp2_with fail
   go_meet
   exact M7
  ·
   have CV := Lib.hid fun W hW => pre_ok t5 (by have := Z5.out; omega) h W hW
   have HW := Lib.hid (HE.out.below M7.out.bel)
   cases q with
   | false =>
    clear h hq
    go_wp2_with fail
    go_meet
    exact M7
   | true =>
    clear h hq
    go_wp2_with (go_at_call 59; (with_reducible refine (CV.out _ HW.out).mono ?_); rintro e wt ⟨rfl, hbt⟩; have hMt := M7.out.below hbt; have Mt := Lib.hid hMt; clear hMt hbt)
    go_meet
    exact Mt
 clear M7 H5 hq q x3
 have M8 := hcut
 have x3 := M8.out.v.cell 4 _ rfl
 go_upto_if 94 with fail
 obtain ⟨q, hq⟩ : ∃ q, (!t8.toList.isEmpty) = q := ⟨_, rfl⟩
 rw [hq]
 go_cut [] (fun wx => Hid (Mid w gm g [.string t0, .string t1, .string t2, .string t3, .string t4, .string t5, .string t6, .string t7, .string t8, .string t9] [.int .u64 (na : Int), .int .u64 (nb : Int), .int .u64 (nc : Int), .string t5, .string t8, .string s] wx))
 case first =>
  rcases H8.out with h | h
  ·
   obtain rfl : q = false := by rw [← hq, toList_bl, h]; rfl
   clear h hq
   go_wp2_with fail
   go_meet
   exact M8
  ·
   have CV := Lib.hid fun W hW => met_ok t8 (by have := Z8.out; omega) h W hW
   have HW := Lib.hid (HE.out.below M8.out.bel)
   cases q with
   | false =>
    clear h hq
    go_wp2_with fail
    go_meet
    exact M8
   | true =>
    clear h hq
    go_wp2_with (go_at_call 58; (with_reducible refine (CV.out _ HW.out).mono ?_); rintro e wt ⟨rfl, hbt⟩; have hMt := M8.out.below hbt; have Mt := Lib.hid hMt; clear hMt hbt)
    go_meet
    exact Mt
 clear M8 H8 hq q x3
 have M9 := hcut
 go_wp2_with fail
 go_ret2
 exact ⟨g, rfl, M9.out.v, M9.out.lg, M9.out.bel⟩

end Go.Proofs.YtjgedenoaocfjaaGreatDoor.Rxw
namespace Go.Proofs.YtjgedenoaocfjaaGreatDoor.Rxw

open Go Go.RowKit Go.Lib Go.Sort Go.Proofs Go.Proofs.YtjgedenoaocfjaaGreatDoor Go.Proofs.YtjgedenoaocfjaaGreatDoor.Base Go.Proofs.YtjgedenoaocfjaaGreatDoor.Rx Go.Proofs.YtjgedenoaocfjaaGreatDoor.L Go.Proofs.YtjgedenoaocfjaaGreatDoor.Parse Go.Proofs.YtjgedenoaocfjaaGreatDoor.PX Go.Proofs.YtjgedenoaocfjaaGreatDoor.KX Go.Proofs.YtjgedenoaocfjaaGreatDoor.MetaX Go.Proofs.YtjgedenoaocfjaaGreatDoor.SemC

open Go.Proofs.YtjgedenoaocfjaaGreatDoorW.PrintWords Go.Proofs.YtjgedenoaocfjaaGreatDoorW.PrintLast Go.Proofs.YtjgedenoaocfjaaGreatDoorW.PrintMore

open Go.Proofs.YtjgedenoaocfjaaGreatDoor.Bt (toList_bl)

open Go.Proofs.YtjgedenoaocfjaaGreatDoor.Ascii (only)

def errG : Nat → Nat
  | 0 => 0
  | 1 => 1
  | 2 => 2
  | 3 => 3
  | 4 => 4
  | 5 => 5
  | _ => 6

/-- The package's errors lie there as these values. -/
structure Errs (te : Nat → TypeId) (pe : Nat → Value) (w : World) : Prop where
  c : ∀ k, w.cell? ⟨errG k, 0, none⟩ = some (.iface (te k) (pe k))
  lt : ∀ k, errG k < w.heap.size

theorem Errs.below {te pe} {w w' : World} (h : Errs te pe w) (hb : Below w.heap.size w w') : Errs te pe w' := ⟨fun k => (hb.cell (p := ⟨errG k, 0, none⟩) (h.lt k)).trans (h.c k), fun k => Nat.lt_of_lt_of_le (h.lt k) hb.size⟩

theorem Errs.sem {te pe} {w : World} (h : Errs te pe w) : Sem w := ⟨⟨_, _, h.c 6⟩, h.lt 6, ⟨_, _, h.c 4⟩, h.lt 4, ⟨_, _, h.c 5⟩, h.lt 5⟩

def cutF (c : UInt8) (l : List UInt8) : List UInt8 × List UInt8 × Bool := match fst c l with
  | none => (l, [], false)
  | some j => (l.take j, l.drop (j + 1), true)

def leadL (p : List UInt8) : Bool := decide (1 < p.length) && (p.headD 0 == 48)

def partK (p : List UInt8) : Nat := if p.all isDig = false then 3 else if leadL p = true then 4 else 8

def preCode (p : List UInt8) : Nat := if preErr ((splitL 46 p).map ofL) = 1 then 6 else 4

abbrev VerX := Except Nat (Nat × Nat × Nat × List UInt8 × List UInt8)

def parseK (a b c p m : List UInt8) : VerX := match num a with
  | none => .error 7
  | some x => match num b with
    | none => .error 7
    | some y => match num c with
      | none => .error 7
      | some z => .ok (x, y, z, p, m)

def numK (a b c p m : List UInt8) : VerX := if partK a ≠ 8 then .error (partK a) else if partK b ≠ 8 then .error (partK b) else if partK c ≠ 8 then .error (partK c) else parseK a b c p m

def preK (a b m : List UInt8) (x : List UInt8 × List UInt8 × Bool) : VerX := if x.2.2 = true ∧ preOk x.2.1 = false then .error (preCode x.2.1) else numK a b x.1 x.2.1 m

def tailK (a b : List UInt8) (x : List UInt8 × List UInt8 × Bool) : VerX := if x.2.2 = true ∧ metaOk x.2.1 = false then .error 5 else preK a b x.2.1 (cutF 45 x.1)

def partsK : List (List UInt8) → VerX
  | [a, b, c] => tailK a b (cutF 43 c)
  | _ => .error 2

/-- What a text is, read strictly: a version, or what is wrong with it. -/
def strictL (l : List UInt8) : VerX := if l = [] then .error 0 else if 256 < l.length then .error 1 else partsK (splitNL 46 2 l)

def StrictR (te : Nat → TypeId) (pe : Nat → Value) (s : ByteArray) (w : World) (r : VerX) (e : Ending) (w' : World) : Prop := match r with
  | .ok (a, b, c, p, m) => NewVer a b c (ofL p) (ofL m) s w e w'
  | .error k => ∃ t y, e = .returned (.tuple #[.pointer none, .iface t y]) ∧ (k < 7 → t = te k ∧ y = pe k) ∧ Below w.heap.size w w'

theorem StrictR.err {te : Nat → TypeId} {pe : Nat → Value} {s : ByteArray} {w w' : World} {r : VerX} (k : Nat) (h : r = .error k) (hb : Below w.heap.size w w') : StrictR te pe s w r (.returned (.tuple #[.pointer none, .iface (te k) (pe k)])) w' := by
  subst h
  exact ⟨_, _, rfl, fun _ => ⟨rfl, rfl⟩, hb⟩

theorem StrictR.oth {te : Nat → TypeId} {pe : Nat → Value} {s : ByteArray} {w w' : World} {r : VerX} {t : TypeId} {y : Value} (h : r = .error 7) (hb : Below w.heap.size w w') : StrictR te pe s w r (.returned (.tuple #[.pointer none, .iface t y])) w' := by
  subst h
  exact ⟨_, _, rfl, fun h => absurd h (by decide), hb⟩

theorem StrictR.good {te : Nat → TypeId} {pe : Nat → Value} {s : ByteArray} {w w' : World} {r : VerX} {a b c g : Nat} {p m : List UInt8} (h : r = .ok (a, b, c, p, m)) (hv : Row w' g 70 [.int .u64 (a : Int), .int .u64 (b : Int), .int .u64 (c : Int), .string (ofL p), .string (ofL m), .string s]) (hg : w.heap.size ≤ g) (hb : Below w.heap.size w w') : StrictR te pe s w r (.returned (.tuple #[.pointer (some ⟨g, 0, none⟩), .nilIface])) w' := by
  subst h
  exact ⟨g, rfl, hv, hg, hb⟩

theorem box_of_own {w : World} {B n : Nat} {e : TypeId} {v : Value} {xs : List Value} (h : w.ownsRow B e 1 v n xs) (hn : 0 < n) : ∃ g c, v = .slice (some ⟨g, 0, none⟩) n c ∧ B ≤ g ∧ Box w g xs := by
  have hc := fun g (hg : v.ownBlock = some g) => h.cells hg
  rcases h.2 with ⟨rfl, h0⟩ | ⟨g, cap, cur, rfl, h1, h2, h3⟩
  · omega
  · refine ⟨g, cap, rfl, h1, ⟨fun j u hu => ?_, fun j => ?_, (Array.getElem?_eq_some_iff.1 h2).1⟩⟩
    · have := hc g rfl j u hu
      have e : (⟨g, 0, none⟩ : Addr).add j = ⟨g, j, none⟩ := by
        unfold Addr.add
        split
        · rename_i h0; subst h0; rfl
        · simp
      rwa [e] at this
    · simp [World.frozen?, h2]

/-- In the middle: the parts and the version. -/
structure Sm (w : World) (gp g : Nat) (ps vs : List Value) (wx : World) : Prop where
  p : Box wx gp ps
  v : Row wx g 70 vs
  ne : gp ≠ g
  bel : Below w.heap.size w wx
  lp : w.heap.size ≤ gp
  lg : w.heap.size ≤ g

theorem Sm.below {w wx wy : World} {gp g : Nat} {ps vs : List Value} (h : Sm w gp g ps vs wx) (hb : Below wx.heap.size wx wy) : Sm w gp g ps vs wy := ⟨h.p.below hb, h.v.below hb, h.ne, h.bel.trans (hb.mono h.bel.size), h.lp, h.lg⟩

theorem Sm.setV {w wx : World} {gp g : Nat} {ps vs : List Value} (h : Sm w gp g ps vs wx) (i : Nat) (hi : i < vs.length) (y : Value) : Sm w gp g ps (vs.set i y) (wx.setCell ⟨g, i, none⟩ y) :=
  ⟨h.p.far _ (Ne.symm h.ne) _, h.v.set i hi y, h.ne, h.bel.setCell h.lg _, h.lp, h.lg⟩

theorem Sm.setP {w wx : World} {gp g : Nat} {ps vs : List Value} (h : Sm w gp g ps vs wx) (i : Nat) (hi : i < ps.length) (y : Value) : Sm w gp g (ps.set i y) vs (wx.setCell ⟨gp, i, none⟩ y) :=
  ⟨h.p.set i hi y, h.v.far _ (Ne.symm h.ne) _, h.ne, h.bel.setCell h.lp _, h.lp, h.lg⟩

theorem splitNL_le (c : UInt8) : ∀ m l, (splitNL c m l).length ≤ m + 1 ∧ 0 < (splitNL c m l).length
  | 0, l => ⟨Nat.le_refl _, Nat.one_pos⟩
  | m + 1, l => by
    unfold splitNL
    cases fst c l with
    | none => exact ⟨by simp, Nat.one_pos⟩
    | some j => have := splitNL_le c m (l.drop (j + 1)); exact ⟨by simp; omega, by simp⟩

theorem cutF_none {c : UInt8} {l x y : List UInt8} (h : cutF c l = (x, y, false)) : x = l ∧ y = [] ∧ (fst c l).isSome = false := by
  unfold cutF at h
  cases e : fst c l with
  | none => rw [e] at h; cases h; exact ⟨rfl, rfl, rfl⟩
  | some j => rw [e] at h; cases h

theorem cutF_some {c : UInt8} {l x y : List UInt8} (h : cutF c l = (x, y, true)) : splitNL c 1 l = [x, y] ∧ (fst c l).isSome = true ∧ x.length + y.length < l.length := by
  unfold cutF at h
  cases e : fst c l with
  | none => rw [e] at h; cases h
  | some j =>
    rw [e] at h
    cases h
    have := (fst_some c l j e).1
    refine ⟨?_, rfl, by rw [List.length_take, List.length_drop]; omega⟩
    unfold splitNL
    rw [e]
    rfl

theorem ps_at (a b c : List UInt8) (k : Nat) (h : k < 3) : ([.string (ofL a), .string (ofL b), .string (ofL c)] : List Value)[k]? = some (.string (ofL ([a, b, c].getD k []))) := by
  have : k = 0 ∨ k = 1 ∨ k = 2 := by omega
  rcases this with rfl | rfl | rfl <;> rfl

theorem numK_bad (a b c p m : List UInt8) (k : Nat) (h : k < 3) (hg : ∀ j, j < k → partK ([a, b, c].getD j []) = 8) (hb : partK ([a, b, c].getD k []) ≠ 8) : numK a b c p m = .error (partK ([a, b, c].getD k [])) := by
  have : k = 0 ∨ k = 1 ∨ k = 2 := by omega
  unfold numK
  rcases this with rfl | rfl | rfl
  · exact if_pos hb
  · rw [if_neg (fun h => h (hg 0 (by decide)))]; exact if_pos hb
  · rw [if_neg (fun h => h (hg 0 (by decide))), if_neg (fun h => h (hg 1 (by decide)))]; exact if_pos hb

theorem splitNL_mem (c : UInt8) : ∀ m l p, p ∈ splitNL c m l → p.length ≤ l.length
  | 0, l, p, h => by simp [splitNL] at h; subst h; exact Nat.le_refl _
  | m + 1, l, p, h => by
    unfold splitNL at h
    cases e : fst c l with
    | none => rw [e] at h; simp at h; subst h; exact Nat.le_refl _
    | some j =>
      rw [e] at h
      rcases List.mem_cons.1 h with h | h
      · subst h; rw [List.length_take]; omega
      · have := splitNL_mem c m _ p h; rw [List.length_drop] at this; omega

theorem partsK_no {P : List (List UInt8)} (h : P.length ≠ 3) : partsK P = .error 2 := by
  unfold partsK
  split
  · exact absurd rfl h
  · rfl

set_option maxHeartbeats 16000000 in
set_option maxRecDepth 100000 in
theorem strictW (s : ByteArray) (hs : s.size ≤ 2147483647) (te : Nat → TypeId) (pe : Nat → Value) (w : World) (hE : Errs te pe w) (hStd : Std w) :
  Calls Tryz.prog 29 #[.string s] w (StrictR te pe s w (strictL (bl s))) := by
 obtain ⟨R, hR⟩ : ∃ R, R = strictL (bl s) := ⟨_, rfl⟩
 rw [← hR]
 have HE := Lib.hid hE; have HS := Lib.hid hStd
 have hlen : (bl s).length = s.size := bl_len s
 unfold strictL at hR
 by_cases h0 : s.size = 0
 ·
  have e0 : ((s.size : Int) == 0) = true := by rw [h0]; rfl
  have HV : Hid (R = .error 0) := Lib.hid (by rw [hR, if_pos (List.eq_nil_of_length_eq_zero (by omega))])
  have c0 : w.cell? ⟨0, 0, none⟩ = some (.iface (te 0) (pe 0)) := hE.c 0
  clear hR hs hStd hE hlen h0
  go_enter Tryz.func29, Tryz.ntmps29
  go_wp2_with fail
  go_region
  go_wp2_with fail
  go_ret2
  exact StrictR.err 0 HV.out (by repeat (first | exact Below.refl _ _ | apply Below.drew))
 have e0 : ((s.size : Int) == 0) = false := beq_eq_false_iff_ne.2 (by omega)
 rw [if_neg (fun e => h0 (by rw [← hlen, e]; rfl))] at hR
 clear h0
 by_cases h1 : 256 < s.size
 ·
  have d1 : decide (256 < (s.size : Int)) = true := decide_eq_true (by omega)
  have HV : Hid (R = .error 1) := Lib.hid (by rw [hR, if_pos (by omega)])
  have c0 : w.cell? ⟨1, 0, none⟩ = some (.iface (te 1) (pe 1)) := hE.c 1
  clear hR hs hStd hE hlen h1
  go_enter Tryz.func29, Tryz.ntmps29
  go_wp2_with fail
  go_region
  go_wp2_with fail
  go_ret2
  exact StrictR.err 1 HV.out (by repeat (first | exact Below.refl _ _ | apply Below.drew))
 have d1 : decide (256 < (s.size : Int)) = false := decide_eq_false (by omega)
 rw [if_neg (by omega)] at hR
 have CS := Lib.hid fun W => semver_zzSplitN.calls (s.size + 4) s ⟨#[46]⟩ 3 _ W (zzSplitN_f s 46 2 (by decide) hs _ (by omega))
 have hpl := splitNL_le 46 2 (bl s)
 have hpz : ∀ p ∈ splitNL 46 2 (bl s), p.length ≤ 256 := fun p hp => by have := splitNL_mem 46 2 (bl s) p hp; omega
 generalize splitNL 46 2 (bl s) = P at *
 by_cases h3 : P.length = 3
 ·
  have t3 : (((P.map ofL).length : Int) != 3) = false := by rw [List.length_map, h3]; rfl
  obtain ⟨a, b, c, rfl⟩ : ∃ a b c, P = [a, b, c] := by
   match P, h3 with
   | [a, b, c], _ => exact ⟨a, b, c, rfl⟩
  have ha := hpz a (by simp); have hb := hpz b (by simp); have hc := hpz c (by simp)
  have HR : Hid (R = tailK a b (cutF 43 c)) := Lib.hid hR
  have HA := Lib.hid ha; have HB := Lib.hid hb; have HC := Lib.hid hc
  clear hR hpz hpl h3 ha hb hc hs hlen h1 hE hStd
  go_enter Tryz.func29, Tryz.ntmps29
  go_upto_region 8 with (go_at_call 56; (with_reducible refine (CS.out _).mono ?_); rintro e w1 ⟨v1, rfl, ho1, hb1⟩; obtain ⟨gp, cp, e1, hgp, hbx⟩ := box_of_own (Kd.own_of_R ho1) (by simp); subst e1; have HP1 := Lib.hid hbx; have HG1 := Lib.hid hgp; have HB1 := Lib.hid hb1; clear ho1 hb1 hbx hgp)
  have hp1 : Box w1 gp [.string (ofL a), .string (ofL b), .string (ofL c)] := HP1.out
  go_upto_region 9 with fail
  have hM2 : Sm w gp w1.heap.size [.string (ofL a), .string (ofL b), .string (ofL c)] [.int .u64 0, .int .u64 0, .int .u64 0, .string ⟨#[]⟩, .string ⟨#[]⟩, .string s] (w1.alloc (.cells #[.int .u64 0, .int .u64 0, .int .u64 0, .string ⟨#[]⟩, .string ⟨#[]⟩, .string s] 70)) :=
   ⟨hp1.below ((Below.refl _ w1).alloc (Nat.le_refl _) _), Row.new w1 _ _, Nat.ne_of_lt hp1.lt, HB1.out.alloc HB1.out.size _, HG1.out, HB1.out.size⟩
  generalize World.alloc w1 _ = w2 at *
  generalize w1.heap.size = g at *
  have M2 := Lib.hid hM2
  clear hM2 hp1 HP1 HG1 HB1 CS
  have x2 := M2.out.p.cell 2 _ rfl
  obtain ⟨c1, m, fm, hcut⟩ : ∃ x y z, cutF 43 c = (x, y, z) := ⟨_, _, _, rfl⟩
  have hflag : (fst 43 c).isSome = fm := by cases fm; exact (cutF_none hcut).2.2; exact (cutF_some hcut).2.1
  have hzl : c1.length ≤ 256 ∧ m.length ≤ 256 := by
   have := HC.out
   cases fm
   ·
    obtain ⟨h1, h2, _⟩ := cutF_none hcut; rw [h1, h2]; simp; omega
   ·
    have := (cutF_some hcut).2.2; omega
  have CC := Lib.hid fun W => semver_zzContains.calls 1000 (ofL c) ⟨#[43]⟩ fm W (by rw [show (⟨#[43]⟩ : ByteArray) = ofL [43] from rfl, zzContains_f (ofL c) 43 (by rw [size_ofL]; have := HC.out; omega) 1000 (by rw [size_ofL]; have := HC.out; omega), bl_ofL, hflag])
  have HCUT := Lib.hid hcut; have HZL := Lib.hid hzl
  have HRX : Hid (R = tailK a b (c1, m, fm)) := Lib.hid (by rw [HR.out, hcut])
  clear hflag hzl hcut
  go_upto_if 33 with (go_at_call 57; (with_reducible refine (CC.out _).mono ?_); rintro e wn ⟨rfl, hbn⟩; have Mn := Lib.hid (M2.out.below (drawn_below hbn)); clear hbn)
  go_cut [] (fun wx => Hid (Sm w gp g [.string (ofL a), .string (ofL b), .string (ofL c1)] [.int .u64 0, .int .u64 0, .int .u64 0, .string ⟨#[]⟩, .string (ofL m), .string s] wx) ∧ Hid (¬ (fm = true ∧ metaOk m = false)))
  case first =>
   cases fm with
   | false =>
    obtain ⟨h1, h2, _⟩ := cutF_none HCUT.out
    subst h1 h2
    go_wp2_with fail
    go_meet
    exact ⟨Mn, Lib.hid (fun h => by cases h.1)⟩
   | true =>
    obtain ⟨h1, _, _⟩ := cutF_some HCUT.out
    have CX := Lib.hid fun W => semver_zzSplitN.calls 1000 (ofL c) ⟨#[43]⟩ 2 [ofL c1, ofL m] W (by have := zzSplitN_f (ofL c) 43 1 (by decide) (by rw [size_ofL]; have := HC.out; omega) 1000 (by rw [size_ofL]; have := HC.out; omega); rw [bl_ofL, h1] at this; exact this)
    clear h1
    have y2 := Mn.out.p.cell 2 _ rfl
    cases hok : metaOk m with
    | true =>
     have CM := Lib.hid fun W (hW : Below w.heap.size w W) => met_ok (ofL m) (by rw [size_ofL]; have := HZL.out; omega) (by rw [bl_ofL]; exact hok) W (HE.out.below hW).sem
     have HOK := Lib.hid hok
     clear hok
     go_wp2_with (first
      | (go_at_call 56; (with_reducible refine (CX.out _).mono ?_); rintro e wx ⟨vx, rfl, hox, hbx⟩; obtain ⟨gx, cx, ex, hgx, hbxx⟩ := box_of_own (Kd.own_of_R hox) (by simp); subst ex; have hMx := Mn.out.below hbx; have z0 := hbxx.cell 0 (.string (ofL c1)) rfl; have z1 := hbxx.cell 1 (.string (ofL m)) rfl; have v4 := hMx.v.cell 4 _ rfl; have f4 := hMx.v.free 4; have p2 := hMx.p.cell 2 _ rfl; have q2 := hMx.p.free 2; have Mx := Lib.hid hMx; clear hox hbx hbxx hMx hgx)
      | (go_at_call 58; (with_reducible refine (CM.out _ ?c7).mono ?_); (case c7 => exact ((Mx.out.setV 4 (by simp) (.string (ofL m))).setP 2 (by simp) (.string (ofL c1))).bel); rintro e wy ⟨rfl, hby⟩; have My := Lib.hid (((Mx.out.setV 4 (by simp) (.string (ofL m))).setP 2 (by simp) (.string (ofL c1))).below hby); clear hby))
     go_meet
     exact ⟨My, Lib.hid (fun h => by rw [HOK.out] at h; cases h.2)⟩
    | false =>
     have CM : Hid (∀ W, Below w.heap.size w W → Calls Tryz.prog 58 #[.string (ofL m)] W fun e w' => e = .returned (.iface (te 5) (pe 5)) ∧ Below W.heap.size W w') := Lib.hid fun W hW => by
      have := validateMetadata_l (ofL m) (by rw [size_ofL]; have := HZL.out; omega) (te 5) (pe 5) W ((HE.out.below hW).c 5) ((HE.out.below hW).lt 5)
      rw [bl_ofL, hok] at this
      exact this
     have HV : Hid (R = .error 5) := Lib.hid (by rw [HRX.out]; exact if_pos ⟨rfl, hok⟩)
     clear hok
     go_wp2_with (first
      | (go_at_call 56; (with_reducible refine (CX.out _).mono ?_); rintro e wx ⟨vx, rfl, hox, hbx⟩; obtain ⟨gx, cx, ex, hgx, hbxx⟩ := box_of_own (Kd.own_of_R hox) (by simp); subst ex; have hMx := Mn.out.below hbx; have z0 := hbxx.cell 0 (.string (ofL c1)) rfl; have z1 := hbxx.cell 1 (.string (ofL m)) rfl; have v4 := hMx.v.cell 4 _ rfl; have f4 := hMx.v.free 4; have p2 := hMx.p.cell 2 _ rfl; have q2 := hMx.p.free 2; have Mx := Lib.hid hMx; clear hox hbx hbxx hMx hgx)
      | (go_at_call 58; (with_reducible refine (CM.out _ ?c7).mono ?_); (case c7 => exact ((Mx.out.setV 4 (by simp) (.string (ofL m))).setP 2 (by simp) (.string (ofL c1))).bel); rintro e wy ⟨rfl, hby⟩; have My := Lib.hid (((Mx.out.setV 4 (by simp) (.string (ofL m))).setP 2 (by simp) (.string (ofL c1))).below hby); clear hby))
     go_ret2
     exact StrictR.err _ HV.out My.out.bel
  obtain ⟨M3, hno⟩ := hcut
  have HR3 : Hid (R = preK a b m (cutF 45 c1)) := Lib.hid (by rw [HRX.out]; exact if_neg hno.out)
  have HC := Lib.hid HZL.out.1
  clear M2 HRX hno HR HCUT CC
  have HZM := HZL
  clear HZL
  have x2 := M3.out.p.cell 2 _ rfl
  obtain ⟨c2, p, fp, hcut⟩ : ∃ x y z, cutF 45 c1 = (x, y, z) := ⟨_, _, _, rfl⟩
  have hflag : (fst 45 c1).isSome = fp := by cases fp; exact (cutF_none hcut).2.2; exact (cutF_some hcut).2.1
  have hzl : c2.length ≤ 256 ∧ p.length ≤ 256 := by
   have := HC.out
   cases fp
   ·
    obtain ⟨h1, h2, _⟩ := cutF_none hcut; rw [h1, h2]; simp; omega
   ·
    have := (cutF_some hcut).2.2; omega
  have CC := Lib.hid fun W => semver_zzContains.calls 1000 (ofL c1) ⟨#[45]⟩ fp W (by rw [show (⟨#[45]⟩ : ByteArray) = ofL [45] from rfl, zzContains_f (ofL c1) 45 (by rw [size_ofL]; have := HC.out; omega) 1000 (by rw [size_ofL]; have := HC.out; omega), bl_ofL, hflag])
  have HCUT := Lib.hid hcut; have HZL := Lib.hid hzl
  have HRX : Hid (R = preK a b m (c2, p, fp)) := Lib.hid (by rw [HR3.out, hcut])
  clear hflag hzl hcut
  go_upto_if 60 with (go_at_call 57; (with_reducible refine (CC.out _).mono ?_); rintro e wn ⟨rfl, hbn⟩; have Mn := Lib.hid (M3.out.below (drawn_below hbn)); clear hbn)
  go_cut [] (fun wx => Hid (Sm w gp g [.string (ofL a), .string (ofL b), .string (ofL c2)] [.int .u64 0, .int .u64 0, .int .u64 0, .string (ofL p), .string (ofL m), .string s] wx) ∧ Hid (¬ (fp = true ∧ preOk p = false)))
  case first =>
   cases fp with
   | false =>
    obtain ⟨h1, h2, _⟩ := cutF_none HCUT.out
    subst h1 h2
    go_wp2_with fail
    go_meet
    exact ⟨Mn, Lib.hid (fun h => by cases h.1)⟩
   | true =>
    obtain ⟨h1, _, _⟩ := cutF_some HCUT.out
    have CX := Lib.hid fun W => semver_zzSplitN.calls 1000 (ofL c1) ⟨#[45]⟩ 2 [ofL c2, ofL p] W (by have := zzSplitN_f (ofL c1) 45 1 (by decide) (by rw [size_ofL]; have := HC.out; omega) 1000 (by rw [size_ofL]; have := HC.out; omega); rw [bl_ofL, h1] at this; exact this)
    clear h1
    have y2 := Mn.out.p.cell 2 _ rfl
    cases hok : preOk p with
    | true =>
     have CM := Lib.hid fun W (hW : Below w.heap.size w W) => pre_ok (ofL p) (by rw [size_ofL]; have := HZL.out; omega) (by rw [bl_ofL]; exact hok) W (HE.out.below hW).sem
     have HOK := Lib.hid hok
     clear hok
     go_wp2_with (first
      | (go_at_call 56; (with_reducible refine (CX.out _).mono ?_); rintro e wx ⟨vx, rfl, hox, hbx⟩; obtain ⟨gx, cx, ex, hgx, hbxx⟩ := box_of_own (Kd.own_of_R hox) (by simp); subst ex; have hMx := Mn.out.below hbx; have z0 := hbxx.cell 0 (.string (ofL c2)) rfl; have z1 := hbxx.cell 1 (.string (ofL p)) rfl; have v4 := hMx.v.cell 3 _ rfl; have f4 := hMx.v.free 3; have p2 := hMx.p.cell 2 _ rfl; have q2 := hMx.p.free 2; have Mx := Lib.hid hMx; clear hox hbx hbxx hMx hgx)
      | (go_at_call 59; (with_reducible refine (CM.out _ ?c7).mono ?_); (case c7 => exact ((Mx.out.setV 3 (by simp) (.string (ofL p))).setP 2 (by simp) (.string (ofL c2))).bel); rintro e wy ⟨rfl, hby⟩; have My := Lib.hid (((Mx.out.setV 3 (by simp) (.string (ofL p))).setP 2 (by simp) (.string (ofL c2))).below hby); clear hby))
     go_meet
     exact ⟨My, Lib.hid (fun h => by rw [HOK.out] at h; cases h.2)⟩
    | false =>
     have CM : Hid (∀ W, Below w.heap.size w W → Calls Tryz.prog 59 #[.string (ofL p)] W fun e w' => e = .returned (.iface (te (preCode p)) (pe (preCode p))) ∧ Below W.heap.size W w') := Lib.hid fun W hW => by
      have := validatePrerelease_l (ofL p) (by rw [size_ofL]; have := HZL.out; omega) (te 6) (te 4) (pe 6) (pe 4) W ((HE.out.below hW).c 6) ((HE.out.below hW).lt 6) ((HE.out.below hW).c 4) ((HE.out.below hW).lt 4)
      rw [bl_ofL] at this
      refine this.mono ?_
      rintro e w' ⟨rfl, hb⟩
      refine ⟨?_, hb⟩
      have hz := preErr_zero (splitL 46 p)
      change _ = preOk p at hz
      rw [hok, beq_eq_false_iff_ne] at hz
      unfold preVal preCode
      rw [if_neg hz]
      by_cases h1 : preErr ((splitL 46 p).map ofL) = 1
      ·
       rw [if_pos h1, if_pos h1]
      ·
       rw [if_neg h1, if_neg h1]
     have HV : Hid (R = .error (preCode p)) := Lib.hid (by rw [HRX.out]; exact if_pos ⟨rfl, hok⟩)
     generalize preCode p = kp at *
     clear hok
     go_wp2_with (first
      | (go_at_call 56; (with_reducible refine (CX.out _).mono ?_); rintro e wx ⟨vx, rfl, hox, hbx⟩; obtain ⟨gx, cx, ex, hgx, hbxx⟩ := box_of_own (Kd.own_of_R hox) (by simp); subst ex; have hMx := Mn.out.below hbx; have z0 := hbxx.cell 0 (.string (ofL c2)) rfl; have z1 := hbxx.cell 1 (.string (ofL p)) rfl; have v4 := hMx.v.cell 3 _ rfl; have f4 := hMx.v.free 3; have p2 := hMx.p.cell 2 _ rfl; have q2 := hMx.p.free 2; have Mx := Lib.hid hMx; clear hox hbx hbxx hMx hgx)
      | (go_at_call 59; (with_reducible refine (CM.out _ ?c7).mono ?_); (case c7 => exact ((Mx.out.setV 3 (by simp) (.string (ofL p))).setP 2 (by simp) (.string (ofL c2))).bel); rintro e wy ⟨rfl, hby⟩; have My := Lib.hid (((Mx.out.setV 3 (by simp) (.string (ofL p))).setP 2 (by simp) (.string (ofL c2))).below hby); clear hby))
     go_ret2
     exact StrictR.err _ HV.out My.out.bel
  obtain ⟨M4, hno⟩ := hcut
  have HR4 : Hid (R = numK a b c2 p m) := Lib.hid (by rw [HRX.out]; exact if_neg hno.out)
  have HC2 := Lib.hid HZL.out.1
  clear M3 HRX hno HR3 HCUT CC
  have M4' := M4
  go_upto_region 23 with fail
  go_wp2_with fail
  go_loopw [86] (fun i w' => ∃ kk : Nat, i = .int .i64 kk ∧ kk ≤ 3 ∧ Hid (∀ j, j < kk → partK ([a, b, c2].getD j []) = 8) ∧ Hid (Sm w gp g [.string (ofL a), .string (ofL b), .string (ofL c2)] [.int .u64 0, .int .u64 0, .int .u64 0, .string (ofL p), .string (ofL m), .string s] w')) (fun i _ => 3 - (Go.RowKit.intOf i).toNat)
  case atStart => exact ⟨0, rfl, by omega, Lib.hid (fun j h => by omega), M4⟩
  case round =>
   obtain ⟨kk, rfl, hk, HGD, MM⟩ := hrel
   clear M4 M4'
   by_cases hlt : kk < 3
   ·
    have b0 : decide ((kk : Int) < 3) = true := decide_eq_true (by omega)
    have b0' : decide (kk < 3) = true := decide_eq_true hlt
    have p1 : 0 ≤ (kk : Int) := by omega
    have hkI : (kk : Int) < 3 := by omega
    obtain ⟨l, hl⟩ : ∃ l, l = [a, b, c2].getD kk [] := ⟨_, rfl⟩
    have hx : wr.cell? ⟨gp, kk, none⟩ = some (.string (ofL l)) := MM.out.p.cell kk _ (by rw [hl]; exact ps_at a b c2 kk hlt)
    have hbad : partK l ≠ 8 → R = .error (partK l) := fun h => by rw [HR4.out, hl] at *; exact numK_bad a b c2 p m kk hlt HGD.out h
    have hnext : partK l = 8 → ∀ j, j < kk + 1 → partK ([a, b, c2].getD j []) = 8 := fun h j hj => by
     rcases Nat.lt_or_ge j kk with h1 | h1
     ·
      exact HGD.out j h1
     ·
      have : j = kk := by omega
      subst this; rw [← hl]; exact h
    obtain ⟨q, hq⟩ : ∃ q, q = ofL l := ⟨_, rfl⟩
    have hdig : only q digits = l.all isDig := by rw [hq]; exact only_digits l
    have hlead : lead q = leadL l := by rw [hq]; rfl
    rw [← hq] at hx
    have hpk : partK l = if only q digits = false then 3 else if lead q = true then 4 else 8 := by rw [hdig, hlead]; rfl
    rw [hpk] at hbad hnext
    have HK3 := Lib.hid hlt
    have CO : Hid (∀ W, Calls Tryz.prog 60 #[.string q, .string ⟨#[48, 49, 50, 51, 52, 53, 54, 55, 56, 57]⟩] W fun e w' => e = .returned (.bool (only q digits)) ∧ Below W.heap.size W w') := Lib.hid (fun W => Only.containsOnly q digits W)
    clear hl hq hpk hdig hlead hlt
    cases hn : only q digits
    ·
     have HV : Hid (R = .error 3) := Lib.hid (by have := hbad (by rw [hn]; simp); rw [hn] at this; exact this)
     rw [hn] at CO
     clear hn hbad hnext
     go_wp2_with (go_at_call 60; (with_reducible refine (CO.out _).mono ?_); rintro e wo ⟨rfl, hbo⟩; have Mo := Lib.hid (MM.out.below hbo); have c0 : wo.cell? ⟨3, 0, none⟩ = some (.iface (te 3) (pe 3)) := (HE.out.below Mo.out.bel).c 3; clear hbo)
     go_region
     go_wp2_with fail
     go_ret2
     exact StrictR.err 3 HV.out (by repeat (first | exact Mo.out.bel | apply Below.drew))
    ·
     rw [hn] at CO hbad hnext
     cases hl : lead q
     ·
      have HGD2 := Lib.hid (hnext (by rw [hl]; rfl))
      clear hbad hnext hn
      by_cases h1 : 1 < q.size
      ·
       have d1 : decide (1 < (q.size : Int)) = true := decide_eq_true (by omega)
       have d1' : decide (1 < q.size) = true := decide_eq_true h1
       have d2 : (((q.data.toList.headD 0).toNat : Int) == 48) = false := by
        have hx0 : (q.data.toList.headD 0 == 48) = false := by unfold lead at hl; rw [d1', Bool.true_and] at hl; exact hl
        rw [beq_eq_false_iff_ne] at hx0 ⊢
        intro e; apply hx0; apply UInt8.toNat_inj.1
        show _ = 48; omega
       have hh : q.data.toList.headD 0 = q[0] := by
        have : q.data.toList = q[0] :: q.data.toList.drop 1 := by
         have h2 : 0 < q.data.toList.length := by simpa using (by omega : 0 < q.size)
         have := List.drop_eq_getElem_cons h2
         rw [List.drop_zero] at this
         exact this
        rw [this]; rfl
       rw [hh] at d2
       clear hl hh
       go_wp2_with (go_at_call 60; (with_reducible refine (CO.out _).mono ?_); rintro e wo ⟨rfl, hbo⟩; have Mo := Lib.hid (MM.out.below hbo); have c0 : wo.cell? ⟨4, 0, none⟩ = some (.iface (te 4) (pe 4)) := (HE.out.below Mo.out.bel).c 4; clear hbo)
       go_roundw
       case rel => exact ⟨kk + 1, by go_num, HK3.out, HGD2, Mo⟩
       case measure => have := HK3.out; simp [Go.RowKit.intOf]; omega
      ·
       have d1 : decide (1 < (q.size : Int)) = false := decide_eq_false (by omega)
       have d1' : decide (1 < q.size) = false := decide_eq_false h1
       clear hl h1
       go_wp2_with (go_at_call 60; (with_reducible refine (CO.out _).mono ?_); rintro e wo ⟨rfl, hbo⟩; have Mo := Lib.hid (MM.out.below hbo); have c0 : wo.cell? ⟨4, 0, none⟩ = some (.iface (te 4) (pe 4)) := (HE.out.below Mo.out.bel).c 4; clear hbo)
       go_roundw
       case rel => exact ⟨kk + 1, by go_num, HK3.out, HGD2, Mo⟩
       case measure => have := HK3.out; simp [Go.RowKit.intOf]; omega
     ·
      have HV : Hid (R = .error 4) := Lib.hid (by have := hbad (by rw [hl]; simp); rw [hl] at this; exact this)
      clear hbad hnext hn
      have h1 : 1 < q.size := by unfold lead at hl; rw [Bool.and_eq_true, decide_eq_true_eq] at hl; exact hl.1
      have d1 : decide (1 < (q.size : Int)) = true := decide_eq_true (by omega)
      have d1' : decide (1 < q.size) = true := decide_eq_true h1
      have d2 : (((q.data.toList.headD 0).toNat : Int) == 48) = true := by
       have hx0 : (q.data.toList.headD 0 == 48) = true := by unfold lead at hl; rw [d1', Bool.true_and] at hl; exact hl
       rw [beq_iff_eq] at hx0 ⊢
       rw [hx0]; rfl
      have hh : q.data.toList.headD 0 = q[0] := by
       have : q.data.toList = q[0] :: q.data.toList.drop 1 := by
        have h2 : 0 < q.data.toList.length := by simpa using (by omega : 0 < q.size)
        have := List.drop_eq_getElem_cons h2
        rw [List.drop_zero] at this
        exact this
       rw [this]; rfl
      rw [hh] at d2
      clear hl hh
      go_wp2_with (go_at_call 60; (with_reducible refine (CO.out _).mono ?_); rintro e wo ⟨rfl, hbo⟩; have Mo := Lib.hid (MM.out.below hbo); have c0 : wo.cell? ⟨4, 0, none⟩ = some (.iface (te 4) (pe 4)) := (HE.out.below Mo.out.bel).c 4; clear hbo)
      go_region
      go_wp2_with fail
      go_ret2
      exact StrictR.err 4 HV.out (by repeat (first | exact Mo.out.bel | apply Below.drew))
   ·
    obtain rfl : kk = 3 := by omega
    have HR5 : Hid (R = parseK a b c2 p m) := Lib.hid (by
     rw [HR4.out]
     unfold numK
     rw [if_neg (fun h => h (HGD.out 0 (by decide))), if_neg (fun h => h (HGD.out 1 (by decide))), if_neg (fun h => h (HGD.out 2 (by decide)))])
    have hb0 : decide ((3 : Int) < 3) = false := by decide
    clear hlt hk HGD HR4
    have x0 := MM.out.p.cell 0 _ rfl
    cases hna : num a with
    | none =>
     have HV : Hid (R = .error 7) := Lib.hid (by rw [HR5.out]; unfold parseK; rw [hna])
     have CA := Lib.hid fun W hW => parse_err (ofL a) (by rw [size_ofL]; have := HA.out; omega) (by rw [show (ofL a).data.toList = a from rfl]; exact hna) W hW
     clear hna
     go_wp2_with (go_at_call 61; (with_reducible refine (CA.out _ ?c5).mono ?_); (case c5 => exact HS.out.below MM.out.bel); rintro e wq0 ⟨xv, t, y, rfl, hbq⟩; have hMq := MM.out.below hbq; have vq0 := hMq.v.cell 0 _ rfl; have fq0 := hMq.v.free 0; have Mq0 := Lib.hid hMq; clear hbq hMq)
     go_ret2
     exact StrictR.oth HV.out (Mq0.out.setV 0 (by simp) (.int .u64 xv)).bel
    | some na =>
     have CA := Lib.hid fun W => parse_ok (ofL a) (by rw [size_ofL]; have := HA.out; omega) na (by rw [show (ofL a).data.toList = a from rfl]; exact hna) W
     cases hnb : num b with
     | none =>
      have HV : Hid (R = .error 7) := Lib.hid (by rw [HR5.out]; unfold parseK; rw [hna]; dsimp only; rw [hnb])
      have CB := Lib.hid fun W hW => parse_err (ofL b) (by rw [size_ofL]; have := HB.out; omega) (by rw [show (ofL b).data.toList = b from rfl]; exact hnb) W hW
      clear hna hnb
      go_wp2_with (first
       | (go_at_call 61; (with_reducible refine (CA.out _).mono ?_); rintro e wq0 ⟨rfl, hbq⟩; have hMq := MM.out.below hbq; have vq0 := hMq.v.cell 0 _ rfl; have fq0 := hMq.v.free 0; have x1' := hMq.p.cell 1 _ rfl; have Mq0 := Lib.hid hMq; clear hbq hMq)
       | (go_at_call 61; (with_reducible refine (CB.out _ ?c5).mono ?_); (case c5 => exact HS.out.below (Mq0.out.setV 0 (by simp) (.int .u64 (na : Int))).bel); rintro e wq1 ⟨xv, t, y, rfl, hbq⟩; have hMq := (Mq0.out.setV 0 (by simp) (.int .u64 (na : Int))).below hbq; have vq1 := hMq.v.cell 1 _ rfl; have fq1 := hMq.v.free 1; have Mq1 := Lib.hid hMq; clear hbq hMq))
      go_ret2
      exact StrictR.oth HV.out (Mq1.out.setV 1 (by simp) (.int .u64 xv)).bel
     | some nb =>
      have CB := Lib.hid fun W => parse_ok (ofL b) (by rw [size_ofL]; have := HB.out; omega) nb (by rw [show (ofL b).data.toList = b from rfl]; exact hnb) W
      cases hnc : num c2 with
      | none =>
       have HV : Hid (R = .error 7) := Lib.hid (by rw [HR5.out]; unfold parseK; rw [hna]; dsimp only; rw [hnb]; dsimp only; rw [hnc])
       have CC2 := Lib.hid fun W hW => parse_err (ofL c2) (by rw [size_ofL]; have := HC2.out; omega) (by rw [show (ofL c2).data.toList = c2 from rfl]; exact hnc) W hW
       clear hna hnb hnc
       go_wp2_with (first
        | (go_at_call 61; (with_reducible refine (CA.out _).mono ?_); rintro e wq0 ⟨rfl, hbq⟩; have hMq := MM.out.below hbq; have vq0 := hMq.v.cell 0 _ rfl; have fq0 := hMq.v.free 0; have x1' := hMq.p.cell 1 _ rfl; have Mq0 := Lib.hid hMq; clear hbq hMq)
        | (go_at_call 61; (with_reducible refine (CB.out _).mono ?_); rintro e wq1 ⟨rfl, hbq⟩; have hMq := (Mq0.out.setV 0 (by simp) (.int .u64 (na : Int))).below hbq; have vq1 := hMq.v.cell 1 _ rfl; have fq1 := hMq.v.free 1; have x2' := hMq.p.cell 2 _ rfl; have Mq1 := Lib.hid hMq; clear hbq hMq)
        | (go_at_call 61; (with_reducible refine (CC2.out _ ?c5).mono ?_); (case c5 => exact HS.out.below (Mq1.out.setV 1 (by simp) (.int .u64 (nb : Int))).bel); rintro e wq2 ⟨xv, t, y, rfl, hbq⟩; have hMq := (Mq1.out.setV 1 (by simp) (.int .u64 (nb : Int))).below hbq; have vq2 := hMq.v.cell 2 _ rfl; have fq2 := hMq.v.free 2; have Mq2 := Lib.hid hMq; clear hbq hMq))
       go_ret2
       exact StrictR.oth HV.out (Mq2.out.setV 2 (by simp) (.int .u64 xv)).bel
      | some nc =>
       have HV : Hid (R = .ok (na, nb, nc, p, m)) := Lib.hid (by rw [HR5.out]; unfold parseK; rw [hna]; dsimp only; rw [hnb]; dsimp only; rw [hnc])
       have CC2 := Lib.hid fun W => parse_ok (ofL c2) (by rw [size_ofL]; have := HC2.out; omega) nc (by rw [show (ofL c2).data.toList = c2 from rfl]; exact hnc) W
       clear hna hnb hnc
       go_wp2_with (first
        | (go_at_call 61; (with_reducible refine (CA.out _).mono ?_); rintro e wq0 ⟨rfl, hbq⟩; have hMq := MM.out.below hbq; have vq0 := hMq.v.cell 0 _ rfl; have fq0 := hMq.v.free 0; have x1' := hMq.p.cell 1 _ rfl; have Mq0 := Lib.hid hMq; clear hbq hMq)
        | (go_at_call 61; (with_reducible refine (CB.out _).mono ?_); rintro e wq1 ⟨rfl, hbq⟩; have hMq := (Mq0.out.setV 0 (by simp) (.int .u64 (na : Int))).below hbq; have vq1 := hMq.v.cell 1 _ rfl; have fq1 := hMq.v.free 1; have x2' := hMq.p.cell 2 _ rfl; have Mq1 := Lib.hid hMq; clear hbq hMq)
        | (go_at_call 61; (with_reducible refine (CC2.out _).mono ?_); rintro e wq2 ⟨rfl, hbq⟩; have hMq := (Mq1.out.setV 1 (by simp) (.int .u64 (nb : Int))).below hbq; have vq2 := hMq.v.cell 2 _ rfl; have fq2 := hMq.v.free 2; have Mq2 := Lib.hid hMq; clear hbq hMq))
       go_ret2
       have hF := Mq2.out.setV 2 (by simp) (.int .u64 (nc : Int))
       exact StrictR.good HV.out hF.v hF.lg hF.bel
 ·
  have t3 : (((P.map ofL).length : Int) != 3) = true := by rw [bne_iff_ne, List.length_map]; omega
  have HV : Hid (R = .error 2) := Lib.hid (by rw [hR, partsK_no h3])
  have HP : Hid (0 < (P.map ofL).length) := Lib.hid (by rw [List.length_map]; omega)
  clear hR hpz hpl h3 hs hlen h1 hE hStd
  generalize P.map ofL = Q at *
  go_enter Tryz.func29, Tryz.ntmps29
  go_wp2_with (go_at_call 56; (with_reducible refine (CS.out _).mono ?_); rintro e w1 ⟨v1, rfl, ho1, hb1⟩; obtain ⟨A1, c1, e1⟩ := Kd.R_slice ho1; subst e1; have c0 : w1.cell? ⟨2, 0, none⟩ = some (.iface (te 2) (pe 2)) := (HE.out.below hb1).c 2; have HB1 := Lib.hid hb1; clear ho1 hb1)
  go_region
  go_wp2_with fail
  go_ret2
  exact StrictR.err 2 HV.out (by repeat (first | exact HB1.out | apply Below.drew))

end Go.Proofs.YtjgedenoaocfjaaGreatDoor.Rxw
namespace Go.Proofs.YtjgedenoaocfjaaGreatDoor.Rxw

open Go Go.RowKit Go.Lib Go.Proofs Go.Proofs.YtjgedenoaocfjaaGreatDoor Go.Proofs.YtjgedenoaocfjaaGreatDoor.Base Go.Proofs.YtjgedenoaocfjaaGreatDoor.Rx Go.Proofs.YtjgedenoaocfjaaGreatDoor.L Go.Proofs.YtjgedenoaocfjaaGreatDoor.Parse

theorem loose_env : envB loose 4 = true := by decide +kernel

theorem gtx_size (s : ByteArray) (d : List Int) (k : Nat) (hs : s.size ≤ 1000) : (gtx s d k).size ≤ 1000 := by
  unfold gtx
  split
  · rw [ByteArray.size_extract]; omega
  · exact Nat.zero_le _

theorem looseGrps (s : ByteArray) (ha : Ascii s) (hs : s.size ≤ 256) (x : LG) (hv : verG digB (bl s).length (bl s) = some (x, [])) :
    ∃ t : Nat → ByteArray, (t 1 = ofL x.a ∧ t 2 = ofL x.b ∧ t 3 = ofL x.c ∧ t 5 = ofL x.p ∧ t 8 = ofL x.g) ∧ (∀ k, (t k).size ≤ 1000) ∧
      ∀ (W : World) (re pr ib cN : Nat), Rgx W re pr ib cN loose 1 20 9 4 1 → Calls Tryz.prog 70 #[ptr re, .string s] W (Grps s t W) := by
  obtain ⟨r, U, hU, hr⟩ := loose_out (fit_of ha)
  rw [hv] at hr
  obtain ⟨d, rfl, hl, hw, g1, g2, g3, g5, g8⟩ := hr
  have tx : ∀ k y, k < 10 → grp (bl s) d k = y → gtx s d k = ofL y := by
    intro k y hk h
    apply bl_inj
    rw [bl_ofL, ← h]
    exact gtx_grp s d k (by omega)
  refine ⟨gtx s d, ⟨tx 1 _ (by decide) g1, tx 2 _ (by decide) g2, tx 3 _ (by decide) g3, tx 5 _ (by decide) g5, tx 8 _ (by decide) g8⟩, fun k => gtx_size s d k (by omega), fun W re pr ib cN hR => ?_⟩
  have hsz : 0 < s.size := by
    rcases Nat.eq_zero_or_pos s.size with h | h
    · rw [← bl_len] at h
      have := List.eq_nil_of_length_eq_zero h
      rw [this] at hv
      cases hv
    · exact h
  refine (fssOf (n := 10) W hR hU loose_env (by decide) (by decide) (by decide) ha (by omega) (by have : loose.length = 50 := rfl; rw [this]; omega) (by decide) rfl (by decide) (by decide) (fun h => by omega) (fun d' e => by cases e; exact hl) (fun d' e k hk h0 => by cases e; exact hw k (by omega) h0)).mono ?_
  rintro e w' ⟨g, rfl, hg, hrow, hb⟩
  exact ⟨g, rfl, hg, hrow, hb⟩

theorem coerceOf (s : ByteArray) (ha : Ascii s) (hs : s.size ≤ 256) (x : LG) (hv : verG digB (bl s).length (bl s) = some (x, [])) (na nb nc : Nat) (h1 : num x.a = some na) (h2 : (x.b = [] ∧ nb = 0) ∨ ∃ r, x.b = 46 :: r ∧ num r = some nb)
    (h3 : (x.c = [] ∧ nc = 0) ∨ ∃ r, x.c = 46 :: r ∧ num r = some nc) (h5 : x.p = [] ∨ preOk x.p = true) (h8 : x.g = [] ∨ metaOk x.g = true) (w : World) (hStd : Std w) (hSem : Sem w) :
    Calls Tryz.prog 62 #[.string s] w (NewVer na nb nc (ofL x.p) (ofL x.g) s w) := by
  obtain ⟨t, ⟨e1, e2, e3, e5, e8⟩, hz, hf⟩ := looseGrps s ha hs x hv
  rw [← e5, ← e8]
  exact coerceW s t na nb nc hf hz (by rw [e1, bl_ofL]; exact h1) (by rw [e2, bl_ofL]; exact h2) (by rw [e3, bl_ofL]; exact h3) (by rw [e5, bl_ofL]; exact h5) (by rw [e8, bl_ofL]; exact h8) w hStd hSem

theorem newOf (s : ByteArray) (ha : Ascii s) (hs : s.size ≤ 256) (x : LG) (hv : verG digB (bl s).length (bl s) = some (x, [])) (na nb nc : Nat) (h1 : num x.a = some na) (h2 : (x.b = [] ∧ nb = 0) ∨ ∃ r, x.b = 46 :: r ∧ num r = some nb)
    (h3 : (x.c = [] ∧ nc = 0) ∨ ∃ r, x.c = 46 :: r ∧ num r = some nc) (h5 : x.p = [] ∨ preOk x.p = true) (h8 : x.g = [] ∨ metaOk x.g = true) (w : World) (hStd : Std w) (hSem : Sem w) :
    Calls Tryz.prog 31 #[.string s] w (NewVer na nb nc (ofL x.p) (ofL x.g) s w) := by
  have C := Lib.hid (coerceOf s ha hs x hv na nb nc h1 h2 h3 h5 h8 w hStd hSem)
  have hd : decide (256 < (s.size : Int)) = false := decide_eq_false (by omega)
  clear hv h1 h2 h3 h5 h8 hs ha hStd hSem
  go_enter Tryz.func31, Tryz.ntmps31
  go_wp2_with (go_at_call 62; (with_reducible refine C.out.mono ?_); rintro e w' ⟨g, rfl, hv, hg, hb⟩)
  go_ret2
  exact ⟨g, rfl, hv, hg, hb⟩

end Go.Proofs.YtjgedenoaocfjaaGreatDoor.Rxw
