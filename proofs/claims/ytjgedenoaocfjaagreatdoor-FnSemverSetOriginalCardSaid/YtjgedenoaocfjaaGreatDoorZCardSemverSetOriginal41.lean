/- The row and the tied card of FnSemverSetOriginal, out of its printed walk and its plain law. For every input that the statement lets in. -/
import Derived.Test.YtjgedenoaocfjaaGreatDoorZCardSemverSetOriginal8
import Derived.Test.YtjgedenoaocfjaaGreatDoorZCardSemverSetOriginal9
import Derived.Test.YtjgedenoaocfjaaGreatDoorZCardSemverSetOriginal12
import Derived.Test.YtjgedenoaocfjaaGreatDoorZCardSemverSetOriginal13
import Derived.Test.YtjgedenoaocfjaaGreatDoorZCardSemverSetOriginal22
import Derived.Test.YtjgedenoaocfjaaGreatDoorZCardSemverSetOriginal25
import Derived.Test.YtjgedenoaocfjaaGreatDoorZCardSemverSetOriginal28
import Derived.Test.YtjgedenoaocfjaaGreatDoorZCardSemverSetOriginal40
import Derived.Deep.DeepCutAuto
namespace Go.Proofs.YtjgedenoaocfjaaGreatDoor.Ascii
end Go.Proofs.YtjgedenoaocfjaaGreatDoor.Ascii
namespace Go.Proofs.YtjgedenoaocfjaaGreatDoor.Base
end Go.Proofs.YtjgedenoaocfjaaGreatDoor.Base
namespace Go.Proofs.YtjgedenoaocfjaaGreatDoor.Bt
end Go.Proofs.YtjgedenoaocfjaaGreatDoor.Bt
namespace Go.Proofs.YtjgedenoaocfjaaGreatDoor.KX
end Go.Proofs.YtjgedenoaocfjaaGreatDoor.KX
namespace Go.Proofs.YtjgedenoaocfjaaGreatDoor.L
end Go.Proofs.YtjgedenoaocfjaaGreatDoor.L
namespace Go.Proofs.YtjgedenoaocfjaaGreatDoor.MetaX
end Go.Proofs.YtjgedenoaocfjaaGreatDoor.MetaX
namespace Go.Proofs.YtjgedenoaocfjaaGreatDoor.PX
end Go.Proofs.YtjgedenoaocfjaaGreatDoor.PX
namespace Go.Proofs.YtjgedenoaocfjaaGreatDoor.Parse
end Go.Proofs.YtjgedenoaocfjaaGreatDoor.Parse
namespace Go.Proofs.YtjgedenoaocfjaaGreatDoor.Rx
end Go.Proofs.YtjgedenoaocfjaaGreatDoor.Rx
namespace Go.Proofs.YtjgedenoaocfjaaGreatDoor.SemC
end Go.Proofs.YtjgedenoaocfjaaGreatDoor.SemC
namespace Go.Proofs.YtjgedenoaocfjaaGreatDoor.Rxw

open Go Go.RowKit Go.Lib Go.Proofs Go.Proofs.YtjgedenoaocfjaaGreatDoor Go.Proofs.YtjgedenoaocfjaaGreatDoor.Base Go.Proofs.YtjgedenoaocfjaaGreatDoor.Rx Go.Proofs.YtjgedenoaocfjaaGreatDoor.L Go.Proofs.YtjgedenoaocfjaaGreatDoor.Parse Go.Proofs.YtjgedenoaocfjaaGreatDoor.PX Go.Proofs.YtjgedenoaocfjaaGreatDoor.SemC

open Go.Proofs.YtjgedenoaocfjaaGreatDoorW.PrintWords Go.Proofs.YtjgedenoaocfjaaGreatDoorW.PrintLast Go.Proofs.YtjgedenoaocfjaaGreatDoorW.PrintMore

open Go.Proofs.YtjgedenoaocfjaaGreatDoor.Bt (toList_bl)

theorem trimDot (s : ByteArray) (r : List UInt8) (h : bl s = 46 :: r) : strings_TrimPrefix.f s ⟨#[46]⟩ = some (ofL r) := by
  have hs : s.size = r.length + 1 := by rw [← bl_len, h]; rfl
  have e1 : (((⟨#[46]⟩ : ByteArray).size : Nat) : Int) = 1 := rfl
  unfold strings_TrimPrefix.f stringslite_TrimPrefix.f stringslite_HasPrefix.f
  rw [e1, if_pos (by omega), if_pos (by omega), if_pos (by omega), Option.bind_some]
  have e2 : ((s.extract 0 ((1 : Int)).toNat).toList == (⟨#[46]⟩ : ByteArray).toList) = true := by
    rw [show (1 : Int).toNat = 1 from rfl, extract_head, toList_bl, bl_ofL, h, toList_bl]; rfl
  rw [e2, if_pos rfl, if_pos (by omega), if_pos (by omega), Option.bind_some, show (1 : Int).toNat = 1 from rfl, extract_end, h]
  rfl

theorem drawn_below {w w' : World} (h : Drawn0 w w') : Below w.heap.size w w' := by
  obtain ⟨n, rfl⟩ := h
  exact dN (Below.refl _ _) n

/-- What the groups of a text are. -/
def Grps (s : ByteArray) (t : Nat → ByteArray) (W : World) (e : Ending) (w' : World) : Prop := ∃ g, e = .returned (.slice (some ⟨g, 0, none⟩) 10 10) ∧ W.heap.size ≤ g ∧ Row w' g 9 [.string (t 0), .string (t 1), .string (t 2), .string (t 3), .string (t 4), .string (t 5), .string (t 6), .string (t 7), .string (t 8), .string (t 9)] ∧ Below W.heap.size W w'

def NewVer (a b c : Nat) (p m o : ByteArray) (w : World) (e : Ending) (w' : World) : Prop := ∃ g, e = .returned (.tuple #[.pointer (some ⟨g, 0, none⟩), .nilIface]) ∧ Row w' g 70 [.int .u64 (a : Int), .int .u64 (b : Int), .int .u64 (c : Int), .string p, .string m, .string o] ∧ w.heap.size ≤ g ∧ Below w.heap.size w w'

/-- In the middle: the groups and the version. -/
structure Mid (w : World) (gm g : Nat) (ms vs : List Value) (wx : World) : Prop where
  m : Row wx gm 9 ms
  v : Row wx g 70 vs
  bel : Below w.heap.size w wx
  lm : w.heap.size ≤ gm
  lg : w.heap.size ≤ g

theorem Mid.below {w wx wy : World} {gm g : Nat} {ms vs : List Value} (h : Mid w gm g ms vs wx) (hb : Below wx.heap.size wx wy) : Mid w gm g ms vs wy := ⟨h.m.below hb, h.v.below hb, h.bel.trans (hb.mono h.bel.size), h.lm, h.lg⟩

theorem Mid.set {w wx : World} {gm g : Nat} {ms vs : List Value} (h : Mid w gm g ms vs wx) (i : Nat) (hi : i < vs.length) (y : Value) : Mid w gm g ms (vs.set i y) (wx.setCell ⟨g, i, none⟩ y) :=
  ⟨h.m.far _ (row_ne h.m h.v (by decide)) _, h.v.set i hi y, h.bel.setCell h.lg _, h.lm, h.lg⟩

set_option maxHeartbeats 8000000 in
set_option maxRecDepth 100000 in
theorem coerceW (s : ByteArray) (t : Nat → ByteArray) (na nb nc : Nat)
  (hf : ∀ (W : World) (re pr ib cN : Nat), Rgx W re pr ib cN loose 1 20 9 4 1 → Calls Tryz.prog 70 #[ptr re, .string s] W (Grps s t W))
  (hz : ∀ k, (t k).size ≤ 1000) (h1 : num (bl (t 1)) = some na) (h2 : (bl (t 2) = [] ∧ nb = 0) ∨ ∃ r, bl (t 2) = 46 :: r ∧ num r = some nb) (h3 : (bl (t 3) = [] ∧ nc = 0) ∨ ∃ r, bl (t 3) = 46 :: r ∧ num r = some nc)
  (h5 : bl (t 5) = [] ∨ preOk (bl (t 5)) = true) (h8 : bl (t 8) = [] ∨ metaOk (bl (t 8)) = true) (w : World) (hStd : Std w) (hSem : Sem w) :
  Calls Tryz.prog 62 #[.string s] w (NewVer na nb nc (t 5) (t 8) s w) := by
 unfold Grps at hf
 have hz1 := hz 1; have hz2 := hz 2; have hz3 := hz 3; have hz5 := hz 5; have hz8 := hz 8
 generalize t 0 = t0 at *; generalize t 1 = t1 at *; generalize t 2 = t2 at *; generalize t 3 = t3 at *; generalize t 4 = t4 at *
 generalize t 5 = t5 at *; generalize t 6 = t6 at *; generalize t 7 = t7 at *; generalize t 8 = t8 at *; generalize t 9 = t9 at *
 clear hz
 have CF := Lib.hid hf; have HS := Lib.hid hStd; have HE := Lib.hid hSem
 have Z1 := Lib.hid hz1; have Z2 := Lib.hid hz2; have Z3 := Lib.hid hz3; have Z5 := Lib.hid hz5; have Z8 := Lib.hid hz8
 have H1 := Lib.hid h1; have H2 := Lib.hid h2; have H3 := Lib.hid h3; have H5 := Lib.hid h5; have H8 := Lib.hid h8
 have CL := Lib.hid zzLoose
 clear hf hStd hSem hz1 hz2 hz3 hz5 hz8 h1 h2 h3 h5 h8
 go_enter Tryz.func62, Tryz.ntmps62
 go_upto_region 2 with (first
  | (go_at_call 82; (with_reducible refine (CL.out _).mono ?_); rintro e w1 ⟨re, pr, ib, cN, rfl, hR, hb1⟩; have HR := Lib.hid hR; have HB1 := Lib.hid hb1; clear hR hb1)
  | (go_at_call 70; (with_reducible refine (CF.out _ _ _ _ _ HR.out).mono ?_); rintro e w2 ⟨gm, rfl, hgm, hm, hb2⟩; have HM : Hid (w.heap.size ≤ gm ∧ Row w2 gm 9 [.string t0, .string t1, .string t2, .string t3, .string t4, .string t5, .string t6, .string t7, .string t8, .string t9]) := Lib.hid ⟨Nat.le_trans HB1.out.size hgm, hm⟩; have HB2 : Hid (Below w.heap.size w w2) := Lib.hid (HB1.out.trans (hb2.mono HB1.out.size)); clear hgm hm hb2))
 have hnil : ∀ W : World, (binOp .eql 46 (.slice (some ⟨gm, 0, none⟩) 10 10) (.slice none 0 0)).run Tryz.prog W = .ok (.bool false) W := fun W => run_eql_slice_nil W _ _ _ _ _ Tryz.underlying46
 have m8 := HM.out.2.cell 8 _ rfl
 have m5 := HM.out.2.cell 5 _ rfl
 go_upto_region 4 with fail
 go_region
 have hM3 : Mid w gm w2.heap.size [.string t0, .string t1, .string t2, .string t3, .string t4, .string t5, .string t6, .string t7, .string t8, .string t9] [.int .u64 0, .int .u64 0, .int .u64 0, .string t5, .string t8, .string s]
   (w2.alloc (.cells #[.int .u64 0, .int .u64 0, .int .u64 0, .string t5, .string t8, .string s] 70)).drew :=
  ⟨HM.out.2.below ((Below.refl _ w2).alloc (Nat.le_refl _) _).drew, Row.new w2 _ _, (HB2.out.alloc HB2.out.size _).drew, HM.out.1, HB2.out.size⟩
 generalize (w2.alloc _).drew = w3 at *
 generalize hg : w2.heap.size = g at *
 clear hg m8 m5 HM HB2 HR HB1 hnil CF CL
 have M3 := Lib.hid hM3
 have m1 := hM3.m.cell 1 _ rfl
 clear hM3
 have C1 := Lib.hid fun W => parse_ok t1 (by have := Z1.out; omega) na H1.out W
 go_upto_if 38 with (go_at_call 61; (with_reducible refine (C1.out _).mono ?_); rintro e w4 ⟨rfl, hb4⟩; have hM4 := M3.out.below hb4; have v0 := hM4.v.cell 0 _ rfl; have f0 := hM4.v.free 0; have x2 := hM4.m.cell 2 _ rfl; have M4 := Lib.hid hM4; clear hM4 hb4)
 have hM5 := M4.out.set 0 (by simp) (.int .u64 (na : Int))
 generalize World.setCell w4 _ _ = w5 at *
 have M5 := Lib.hid hM5
 clear hM5 M3 M4 v0 f0 x2 m1 C1
 obtain ⟨q, hq⟩ : ∃ q, (!t2.toList.isEmpty) = q := ⟨_, rfl⟩
 rw [hq]
 go_cut [] (fun wx => Hid (Mid w gm g [.string t0, .string t1, .string t2, .string t3, .string t4, .string t5, .string t6, .string t7, .string t8, .string t9] [.int .u64 (na : Int), .int .u64 (nb : Int), .int .u64 0, .string t5, .string t8, .string s] wx))
 case first =>
  have x := M5.out.m.cell 2 _ rfl
  have v := M5.out.v.cell 1 _ rfl
  have f := M5.out.v.free 1
  rcases H2.out with ⟨h, hn⟩ | ⟨r, h, hn⟩
  ·
   obtain rfl : q = false := by rw [← hq, toList_bl, h]; rfl
   subst hn
   clear h hq
   go_wp2_with fail
   go_meet
   exact Lib.hid (M5.out.set 1 (by simp) _)
  ·
   obtain rfl : q = true := by rw [← hq, toList_bl, h]; rfl
   have CT := Lib.hid fun W => strings_TrimPrefix.calls t2 ⟨#[46]⟩ (ofL r) W (trimDot t2 r h)
   have CP := Lib.hid fun W => parse_ok (ofL r) (by have := Z2.out; have hl := congrArg List.length h; rw [bl_len] at hl; rw [size_ofL]; simp at hl; omega) nb hn W
   clear h hn hq v f
   go_wp2_with (first
    | (go_at_call 73; (with_reducible refine (CT.out _).mono ?_); rintro e wt ⟨rfl, hbt⟩; have hMt := M5.out.below (drawn_below hbt); have Mt := Lib.hid hMt; clear hMt hbt)
    | (go_at_call 61; (with_reducible refine (CP.out _).mono ?_); rintro e wp ⟨rfl, hbp⟩; have hMp := Mt.out.below hbp; have vp := hMp.v.cell 1 _ rfl; have fp := hMp.v.free 1; have Mp := Lib.hid hMp; clear hMp hbp))
   go_meet
   exact Lib.hid (Mp.out.set 1 (by simp) _)
 clear M5 H2 hq q
 have M6 := hcut
 have x3 := M6.out.m.cell 3 _ rfl
 go_upto_if 59 with fail
 clear x3
 obtain ⟨q, hq⟩ : ∃ q, (!t3.toList.isEmpty) = q := ⟨_, rfl⟩
 rw [hq]
 go_cut [] (fun wx => Hid (Mid w gm g [.string t0, .string t1, .string t2, .string t3, .string t4, .string t5, .string t6, .string t7, .string t8, .string t9] [.int .u64 (na : Int), .int .u64 (nb : Int), .int .u64 (nc : Int), .string t5, .string t8, .string s] wx))
 case first =>
  have x := M6.out.m.cell 3 _ rfl
  have v := M6.out.v.cell 2 _ rfl
  have f := M6.out.v.free 2
  rcases H3.out with ⟨h, hn⟩ | ⟨r, h, hn⟩
  ·
   obtain rfl : q = false := by rw [← hq, toList_bl, h]; rfl
   subst hn
   clear h hq
   go_wp2_with fail
   go_meet
   exact Lib.hid (M6.out.set 2 (by simp) _)
  ·
   obtain rfl : q = true := by rw [← hq, toList_bl, h]; rfl
   have CT := Lib.hid fun W => strings_TrimPrefix.calls t3 ⟨#[46]⟩ (ofL r) W (trimDot t3 r h)
   have CP := Lib.hid fun W => parse_ok (ofL r) (by have := Z3.out; have hl := congrArg List.length h; rw [bl_len] at hl; rw [size_ofL]; simp at hl; omega) nc hn W
   clear h hn hq v f
   go_wp2_with (first
    | (go_at_call 73; (with_reducible refine (CT.out _).mono ?_); rintro e wt ⟨rfl, hbt⟩; have hMt := M6.out.below (drawn_below hbt); have Mt := Lib.hid hMt; clear hMt hbt)
    | (go_at_call 61; (with_reducible refine (CP.out _).mono ?_); rintro e wp ⟨rfl, hbp⟩; have hMp := Mt.out.below hbp; have vp := hMp.v.cell 2 _ rfl; have fp := hMp.v.free 2; have Mp := Lib.hid hMp; clear hMp hbp))
   go_meet
   exact Lib.hid (Mp.out.set 2 (by simp) _)
 clear M6 H3 hq q
 have M7 := hcut
 have x3 := M7.out.v.cell 3 _ rfl
 go_upto_if 81 with fail
 obtain ⟨q, hq⟩ : ∃ q, (!t5.toList.isEmpty) = q := ⟨_, rfl⟩
 rw [hq]
 go_cut [] (fun wx => Hid (Mid w gm g [.string t0, .string t1, .string t2, .string t3, .string t4, .string t5, .string t6, .string t7, .string t8, .string t9] [.int .u64 (na : Int), .int .u64 (nb : Int), .int .u64 (nc : Int), .string t5, .string t8, .string s] wx))
 case first =>
  rcases H5.out with h | h
  ·
   obtain rfl : q = false := by rw [← hq, toList_bl, h]; rfl
   clear h hq
   go_wp2_with fail
   go_meet
   exact M7
  ·
   have CV := Lib.hid fun W hW => pre_ok t5 (by have := Z5.out; omega) h W hW
   have HW := Lib.hid (HE.out.below M7.out.bel)
   cases q with
   | false =>
    clear h hq
    go_wp2_with fail
    go_meet
    exact M7
   | true =>
    clear h hq
    go_wp2_with (go_at_call 59; (with_reducible refine (CV.out _ HW.out).mono ?_); rintro e wt ⟨rfl, hbt⟩; have hMt := M7.out.below hbt; have Mt := Lib.hid hMt; clear hMt hbt)
    go_meet
    exact Mt
 clear M7 H5 hq q x3
 have M8 := hcut
 have x3 := M8.out.v.cell 4 _ rfl
 go_upto_if 94 with fail
 obtain ⟨q, hq⟩ : ∃ q, (!t8.toList.isEmpty) = q := ⟨_, rfl⟩
 rw [hq]
 go_cut [] (fun wx => Hid (Mid w gm g [.string t0, .string t1, .string t2, .string t3, .string t4, .string t5, .string t6, .string t7, .string t8, .string t9] [.int .u64 (na : Int), .int .u64 (nb : Int), .int .u64 (nc : Int), .string t5, .string t8, .string s] wx))
 case first =>
  rcases H8.out with h | h
  ·
   obtain rfl : q = false := by rw [← hq, toList_bl, h]; rfl
   clear h hq
   go_wp2_with fail
   go_meet
   exact M8
  ·
   have CV := Lib.hid fun W hW => met_ok t8 (by have := Z8.out; omega) h W hW
   have HW := Lib.hid (HE.out.below M8.out.bel)
   cases q with
   | false =>
    clear h hq
    go_wp2_with fail
    go_meet
    exact M8
   | true =>
    clear h hq
    go_wp2_with (go_at_call 58; (with_reducible refine (CV.out _ HW.out).mono ?_); rintro e wt ⟨rfl, hbt⟩; have hMt := M8.out.below hbt; have Mt := Lib.hid hMt; clear hMt hbt)
    go_meet
    exact Mt
 clear M8 H8 hq q x3
 have M9 := hcut
 go_wp2_with fail
 go_ret2
 exact ⟨g, rfl, M9.out.v, M9.out.lg, M9.out.bel⟩

end Go.Proofs.YtjgedenoaocfjaaGreatDoor.Rxw
namespace Go.Proofs.YtjgedenoaocfjaaGreatDoor.Rxw

open Go Go.RowKit Go.Lib Go.Sort Go.Proofs Go.Proofs.YtjgedenoaocfjaaGreatDoor Go.Proofs.YtjgedenoaocfjaaGreatDoor.Base Go.Proofs.YtjgedenoaocfjaaGreatDoor.Rx Go.Proofs.YtjgedenoaocfjaaGreatDoor.L Go.Proofs.YtjgedenoaocfjaaGreatDoor.Parse Go.Proofs.YtjgedenoaocfjaaGreatDoor.PX Go.Proofs.YtjgedenoaocfjaaGreatDoor.KX Go.Proofs.YtjgedenoaocfjaaGreatDoor.MetaX Go.Proofs.YtjgedenoaocfjaaGreatDoor.SemC

open Go.Proofs.YtjgedenoaocfjaaGreatDoorW.PrintWords Go.Proofs.YtjgedenoaocfjaaGreatDoorW.PrintLast Go.Proofs.YtjgedenoaocfjaaGreatDoorW.PrintMore

open Go.Proofs.YtjgedenoaocfjaaGreatDoor.Bt (toList_bl)

open Go.Proofs.YtjgedenoaocfjaaGreatDoor.Ascii (only)

def errG : Nat → Nat
  | 0 => 0
  | 1 => 1
  | 2 => 2
  | 3 => 3
  | 4 => 4
  | 5 => 5
  | _ => 6

/-- The package's errors lie there as these values. -/
structure Errs (te : Nat → TypeId) (pe : Nat → Value) (w : World) : Prop where
  c : ∀ k, w.cell? ⟨errG k, 0, none⟩ = some (.iface (te k) (pe k))
  lt : ∀ k, errG k < w.heap.size

theorem Errs.below {te pe} {w w' : World} (h : Errs te pe w) (hb : Below w.heap.size w w') : Errs te pe w' := ⟨fun k => (hb.cell (p := ⟨errG k, 0, none⟩) (h.lt k)).trans (h.c k), fun k => Nat.lt_of_lt_of_le (h.lt k) hb.size⟩

def leadL (p : List UInt8) : Bool := decide (1 < p.length) && (p.headD 0 == 48)

abbrev VerX := Except Nat (Nat × Nat × Nat × List UInt8 × List UInt8)

def StrictR (te : Nat → TypeId) (pe : Nat → Value) (s : ByteArray) (w : World) (r : VerX) (e : Ending) (w' : World) : Prop := match r with
  | .ok (a, b, c, p, m) => NewVer a b c (ofL p) (ofL m) s w e w'
  | .error k => ∃ t y, e = .returned (.tuple #[.pointer none, .iface t y]) ∧ (k < 7 → t = te k ∧ y = pe k) ∧ Below w.heap.size w w'

theorem StrictR.good {te : Nat → TypeId} {pe : Nat → Value} {s : ByteArray} {w w' : World} {r : VerX} {a b c g : Nat} {p m : List UInt8} (h : r = .ok (a, b, c, p, m)) (hv : Row w' g 70 [.int .u64 (a : Int), .int .u64 (b : Int), .int .u64 (c : Int), .string (ofL p), .string (ofL m), .string s]) (hg : w.heap.size ≤ g) (hb : Below w.heap.size w w') : StrictR te pe s w r (.returned (.tuple #[.pointer (some ⟨g, 0, none⟩), .nilIface])) w' := by
  subst h
  exact ⟨g, rfl, hv, hg, hb⟩

/-- In the middle: the parts and the version. -/
structure Sm (w : World) (gp g : Nat) (ps vs : List Value) (wx : World) : Prop where
  p : Box wx gp ps
  v : Row wx g 70 vs
  ne : gp ≠ g
  bel : Below w.heap.size w wx
  lp : w.heap.size ≤ gp
  lg : w.heap.size ≤ g

theorem Sm.below {w wx wy : World} {gp g : Nat} {ps vs : List Value} (h : Sm w gp g ps vs wx) (hb : Below wx.heap.size wx wy) : Sm w gp g ps vs wy := ⟨h.p.below hb, h.v.below hb, h.ne, h.bel.trans (hb.mono h.bel.size), h.lp, h.lg⟩

end Go.Proofs.YtjgedenoaocfjaaGreatDoor.Rxw
namespace Go.Proofs.YtjgedenoaocfjaaGreatDoor.Rxw

open Go Go.RowKit Go.Lib Go.Proofs Go.Proofs.YtjgedenoaocfjaaGreatDoor Go.Proofs.YtjgedenoaocfjaaGreatDoor.Base Go.Proofs.YtjgedenoaocfjaaGreatDoor.Rx Go.Proofs.YtjgedenoaocfjaaGreatDoor.L Go.Proofs.YtjgedenoaocfjaaGreatDoor.Parse

theorem loose_env : envB loose 4 = true := by decide +kernel

theorem gtx_size (s : ByteArray) (d : List Int) (k : Nat) (hs : s.size ≤ 1000) : (gtx s d k).size ≤ 1000 := by
  unfold gtx
  split
  · rw [ByteArray.size_extract]; omega
  · exact Nat.zero_le _

theorem looseGrps (s : ByteArray) (ha : Ascii s) (hs : s.size ≤ 256) (x : LG) (hv : verG digB (bl s).length (bl s) = some (x, [])) :
    ∃ t : Nat → ByteArray, (t 1 = ofL x.a ∧ t 2 = ofL x.b ∧ t 3 = ofL x.c ∧ t 5 = ofL x.p ∧ t 8 = ofL x.g) ∧ (∀ k, (t k).size ≤ 1000) ∧
      ∀ (W : World) (re pr ib cN : Nat), Rgx W re pr ib cN loose 1 20 9 4 1 → Calls Tryz.prog 70 #[ptr re, .string s] W (Grps s t W) := by
  obtain ⟨r, U, hU, hr⟩ := loose_out (fit_of ha)
  rw [hv] at hr
  obtain ⟨d, rfl, hl, hw, g1, g2, g3, g5, g8⟩ := hr
  have tx : ∀ k y, k < 10 → grp (bl s) d k = y → gtx s d k = ofL y := by
    intro k y hk h
    apply bl_inj
    rw [bl_ofL, ← h]
    exact gtx_grp s d k (by omega)
  refine ⟨gtx s d, ⟨tx 1 _ (by decide) g1, tx 2 _ (by decide) g2, tx 3 _ (by decide) g3, tx 5 _ (by decide) g5, tx 8 _ (by decide) g8⟩, fun k => gtx_size s d k (by omega), fun W re pr ib cN hR => ?_⟩
  have hsz : 0 < s.size := by
    rcases Nat.eq_zero_or_pos s.size with h | h
    · rw [← bl_len] at h
      have := List.eq_nil_of_length_eq_zero h
      rw [this] at hv
      cases hv
    · exact h
  refine (fssOf (n := 10) W hR hU loose_env (by decide) (by decide) (by decide) ha (by omega) (by have : loose.length = 50 := rfl; rw [this]; omega) (by decide) rfl (by decide) (by decide) (fun h => by omega) (fun d' e => by cases e; exact hl) (fun d' e k hk h0 => by cases e; exact hw k (by omega) h0)).mono ?_
  rintro e w' ⟨g, rfl, hg, hrow, hb⟩
  exact ⟨g, rfl, hg, hrow, hb⟩

theorem coerceOf (s : ByteArray) (ha : Ascii s) (hs : s.size ≤ 256) (x : LG) (hv : verG digB (bl s).length (bl s) = some (x, [])) (na nb nc : Nat) (h1 : num x.a = some na) (h2 : (x.b = [] ∧ nb = 0) ∨ ∃ r, x.b = 46 :: r ∧ num r = some nb)
    (h3 : (x.c = [] ∧ nc = 0) ∨ ∃ r, x.c = 46 :: r ∧ num r = some nc) (h5 : x.p = [] ∨ preOk x.p = true) (h8 : x.g = [] ∨ metaOk x.g = true) (w : World) (hStd : Std w) (hSem : Sem w) :
    Calls Tryz.prog 62 #[.string s] w (NewVer na nb nc (ofL x.p) (ofL x.g) s w) := by
  obtain ⟨t, ⟨e1, e2, e3, e5, e8⟩, hz, hf⟩ := looseGrps s ha hs x hv
  rw [← e5, ← e8]
  exact coerceW s t na nb nc hf hz (by rw [e1, bl_ofL]; exact h1) (by rw [e2, bl_ofL]; exact h2) (by rw [e3, bl_ofL]; exact h3) (by rw [e5, bl_ofL]; exact h5) (by rw [e8, bl_ofL]; exact h8) w hStd hSem

theorem newOf (s : ByteArray) (ha : Ascii s) (hs : s.size ≤ 256) (x : LG) (hv : verG digB (bl s).length (bl s) = some (x, [])) (na nb nc : Nat) (h1 : num x.a = some na) (h2 : (x.b = [] ∧ nb = 0) ∨ ∃ r, x.b = 46 :: r ∧ num r = some nb)
    (h3 : (x.c = [] ∧ nc = 0) ∨ ∃ r, x.c = 46 :: r ∧ num r = some nc) (h5 : x.p = [] ∨ preOk x.p = true) (h8 : x.g = [] ∨ metaOk x.g = true) (w : World) (hStd : Std w) (hSem : Sem w) :
    Calls Tryz.prog 31 #[.string s] w (NewVer na nb nc (ofL x.p) (ofL x.g) s w) := by
  have C := Lib.hid (coerceOf s ha hs x hv na nb nc h1 h2 h3 h5 h8 w hStd hSem)
  have hd : decide (256 < (s.size : Int)) = false := decide_eq_false (by omega)
  clear hv h1 h2 h3 h5 h8 hs ha hStd hSem
  go_enter Tryz.func31, Tryz.ntmps31
  go_wp2_with (go_at_call 62; (with_reducible refine C.out.mono ?_); rintro e w' ⟨g, rfl, hv, hg, hb⟩)
  go_ret2
  exact ⟨g, rfl, hv, hg, hb⟩

end Go.Proofs.YtjgedenoaocfjaaGreatDoor.Rxw
