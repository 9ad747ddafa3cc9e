/- The row and the tied card of FnSemverNotEqualHolds, out of its printed walk and its plain law. For every input that the statement lets in. -/
import Derived.Test.YtllkoadcpobdaaaDoorZCardSemverNotEqualHolds6
import Derived.Test.YtllkoadcpobdaaaDoorZCardSemverNotEqualHolds9
import Derived.Test.YtllkoadcpobdaaaDoorZCardSemverNotEqualHolds10
import Derived.Test.YtllkoadcpobdaaaDoorZCardSemverNotEqualHolds15
import Derived.Test.YtllkoadcpobdaaaDoorZCardSemverNotEqualHolds19
import Derived.Test.YtllkoadcpobdaaaDoorZCardSemverNotEqualHolds21
import Derived.RegionTactic
import Derived.Deep.RegionWith
namespace Go.Proofs.YtllkoadcpobdaaaDoor.KX

open Go.RowKit Go.Lib Go.Sort Go.Proofs Go.Proofs.YtllkoadcpobdaaaDoor Go.Proofs.YtllkoadcpobdaaaDoor.Base Go.Proofs.YtllkoadcpobdaaaDoor.L Go.Proofs.YtllkoadcpobdaaaDoor.Bt Go.Proofs.YtllkoadcpobdaaaDoor.Parse Go.Proofs.YtllkoadcpobdaaaDoor.PX

open Go.Proofs.YtllkoadcpobdaaaDoorW.PrintWords Go.Proofs.YtllkoadcpobdaaaDoorW.PrintLast Go.Proofs.YtllkoadcpobdaaaDoorW.PrintMore

/-- The cells of a constraint. -/
def ccells (g : Nat) (os : ByteArray) (mD d pD : Bool) : List Value := [.pointer (some ⟨g, 0, none⟩), .string ⟨#[]⟩, .string os, .bool mD, .bool d, .bool pD]

set_option maxHeartbeats 2000000 in
theorem inner (os : ByteArray) (g : Nat) (d mD pD : Bool) (w : World) :
    Calls Tryd.prog 81 #[.agg #[.string os, .pointer (some ⟨g, 0, none⟩), .bool d, .bool mD, .bool pD]] w (NewAt w (ccells g os mD d pD)) := by
  go_enter Tryd.func81, Tryd.ntmps81
  go_wp2
  go_ret
  exact ⟨w.heap.size + 1, rfl, At.new _ _ _ _ (by simp), by omega, by go_grown⟩

/-- The cells of a version that is told as a whole. -/
def vc (v : Ver) : List Value := vcells v.ma v.mi v.pa v.pre v.mt v.og

theorem verAt {w : World} {b : Nat} {v : Ver} (h : At w b (vc v)) : VerAt w b v := ⟨h.cell 0 _ rfl, h.cell 1 _ rfl, h.cell 2 _ rfl, h.cell 3 _ rfl, h.cell 4 _ rfl, h.cell 5 _ rfl⟩

theorem kCM (v n : Ver) (bv bn : Nat) (sp : v.pre.size ≤ 2147483647) (sq : n.pre.size ≤ 2147483647) : Hid (∀ (W : World), At W bv (vc v) → At W bn (vc n) → Std W →
    Calls Tryd.prog 86 #[.pointer (some ⟨bv, 0, none⟩), .pointer (some ⟨bn, 0, none⟩)] W fun e w' => e = .returned (.int .i64 (verC v n)) ∧ Below W.heap.size W w') :=
  Lib.hid fun W hv hn hs => compare v n bv bn sp sq W (verAt hv) (verAt hn) hs

theorem infoV : (Tryd.prog.info? 106).map (fun i => (i.zero, i.size, i.bytes)) = some (some (.agg #[.int .u64 0, .int .u64 0, .int .u64 0, .string ⟨#[]⟩, .string ⟨#[]⟩, .string ⟨#[]⟩]), 6, 72) := by kernel_rfl

theorem kEQ (v n : Ver) (bv bn : Nat) (sp : v.pre.size ≤ 2147483647) (sq : n.pre.size ≤ 2147483647) (hne : bv ≠ bn) : Hid (∀ (W : World), At W bv (vc v) → At W bn (vc n) → Std W →
    Calls Tryd.prog 66 #[.pointer (some ⟨bv, 0, none⟩), .pointer (some ⟨bn, 0, none⟩)] W fun e w' => e = .returned (.bool (verC v n == 0)) ∧ Below W.heap.size W w') :=
  Lib.hid fun W hv hn hs => by
    obtain ⟨i0, hi, _, hz1, _⟩ := info_parts infoV
    exact vEqual_calls _ _ _ _ _ _ _ _ _ _ _ _ bv bn (verC v n) W hv hn hs (kCM v n bv bn sp sq) (hv.ne_run hn hne Tryd.underlying65 hi (by rw [hz1]; decide))

end Go.Proofs.YtllkoadcpobdaaaDoor.KX
namespace Go.Proofs.YtllkoadcpobdaaaDoor.KX

open Go.RowKit Go.Lib Go.Sort Go.Proofs Go.Proofs.YtllkoadcpobdaaaDoor Go.Proofs.YtllkoadcpobdaaaDoor.Base Go.Proofs.YtllkoadcpobdaaaDoor.L Go.Proofs.YtllkoadcpobdaaaDoor.Bt Go.Proofs.YtllkoadcpobdaaaDoor.Parse Go.Proofs.YtllkoadcpobdaaaDoor.PX

/-- What constraintNotEqual answers. -/
def notEqualB (v n : Ver) (mD d pD pre : Bool) : Bool := cNotEqual_r (v.pre.toList == []) d ((n.ma : Int) == (v.ma : Int)) ((n.mi : Int) == (v.mi : Int)) mD ((n.pa : Int) == (v.pa : Int)) pD (n.pre.toList == []) (preC (bl v.pre) (bl n.pre) == 0) (verC v n == 0) pre

theorem hNotEqual (v n : Ver) (os : ByteArray) (bv bc bn : Nat) (mD d pD pre : Bool) (sp : v.pre.size ≤ 2147483647) (sq : n.pre.size ≤ 2147483647) (hne : bv ≠ bn) (w : World) (hV : At w bv (vc v)) (hC : At w bc (ccells bn os mD d pD)) (hN : At w bn (vc n)) (hS : Std w) :
    Calls Tryd.prog 88 #[.pointer (some ⟨bv, 0, none⟩), .pointer (some ⟨bc, 0, none⟩), .bool pre] w (RetB w (notEqualB v n mD d pD pre)) :=
  cNotEqual_calls _ _ _ _ _ _ _ _ _ _ _ _ _ _ bv bc bn mD d pD pre (verC v n == 0) (preC (bl v.pre) (bl n.pre)) w hV hC hN hS (kEQ v n bv bn sp sq hne) (Lib.hid fun W hs => comparePre v.pre n.pre sp sq W hs)

end Go.Proofs.YtllkoadcpobdaaaDoor.KX
namespace Go.Proofs.YtllkoadcpobdaaaDoor.KX

open Go.RowKit Go.Lib Go.Sort Go.Proofs Go.Proofs.YtllkoadcpobdaaaDoor Go.Proofs.YtllkoadcpobdaaaDoor.Base Go.Proofs.YtllkoadcpobdaaaDoor.L Go.Proofs.YtllkoadcpobdaaaDoor.Bt Go.Proofs.YtllkoadcpobdaaaDoor.Parse Go.Proofs.YtllkoadcpobdaaaDoor.PX

open Go.Proofs.YtllkoadcpobdaaaDoorW.PrintWords Go.Proofs.YtllkoadcpobdaaaDoorW.PrintLast Go.Proofs.YtllkoadcpobdaaaDoorW.PrintMore

attribute [local go_sem] setCell_drewN alloc_drewN

set_option maxHeartbeats 4000000 in
set_option maxRecDepth 100000 in
theorem zzNotEqualHolds (v n : Ver) (os : ByteArray) (bv bn : Nat) (d mD pD pre : Bool) (sp : v.pre.size ≤ 2147483647) (sq : n.pre.size ≤ 2147483647) (hne : bv ≠ bn) (w : World) (hV : At w bv (vc v)) (hN : At w bn (vc n)) (hS : Std w) :
    Calls Tryd.prog 64 #[.agg #[.string os, .pointer (some ⟨bn, 0, none⟩), .bool d, .bool mD, .bool pD], .pointer (some ⟨bv, 0, none⟩), .bool pre] w (RetB w (notEqualB v n mD d pD pre)) := by
  have C1 := Lib.hid (fun W => inner os bn d mD pD W)
  have C2 := Lib.hid (fun W bc hv hc hn hs => hNotEqual v n os bv bc bn mD d pD pre sp sq hne W hv hc hn hs)
  have HV := Aside0.mk hV; have HN := Aside0.mk hN; have HS := Aside0.mk hS
  clear hV hN hS sp sq hne 
  go_enter Tryd.func64, Tryd.ntmps64
  go_wp2_with fail
  refine (C1.out _).mono ?_
  rintro e w1 ⟨bc, rfl, hc, hl, hb⟩
  have hb' := (show Below w.heap.size w _ by go_grown).trans (hb.mono (by simp))
  have HB := Aside0.mk hb'; have HV1 := Aside0.mk (HV.out.below hb'); have HN1 := Aside0.mk (HN.out.below hb'); have HS1 := Aside0.mk (HS.out.below hb'); have HC := Aside0.mk hc
  clear hb hb' hc hl HV HN HS
  go_wp2_with fail
  refine (C2.out _ _ HV1.out HC.out HN1.out HS1.out).mono ?_
  rintro e w2 ⟨er, rfl, hb2⟩
  go_wp2_with fail
  go_ret2
  exact ⟨_, rfl, HB.out.trans (hb2.mono HB.out.size)⟩

set_option maxHeartbeats 8000000 in
set_option maxRecDepth 100000 in
theorem implNotEqualHolds (op gv : Int) (a b c : Nat) (p : ByteArray) (x0 x1 x2 : Nat) (xp xm : ByteArray) (pre : Bool) (os : ByteArray) (hos : impl_operator.f op = some os) (hg : 0 ≤ gv) (sp : xp.size ≤ 2147483647) (sq : p.size ≤ 2147483647) (w : World) (hS : Std w) :
    Calls Tryd.prog 30 #[.agg #[.int .i64 op, .int .i64 gv, .int .u64 (a : Int), .int .u64 (b : Int), .int .u64 (c : Int), .string p], .agg #[.int .u64 (x0 : Int), .int .u64 (x1 : Int), .int .u64 (x2 : Int), .string xp, .string xm], .bool pre] w
      (Ret1 w (notEqualB ⟨x0, x1, x2, xp, xm, ⟨#[]⟩⟩ ⟨a, b, c, p, ⟨#[]⟩, ⟨#[]⟩⟩ (gv == 1) (decide (gv < 3)) (gv == 2) pre)) := by
  have C1 := Lib.hid (fun W => implTerm op gv a b c p os hos hg W)
  have C2 := Lib.hid (fun W => implVersion x0 x1 x2 xp xm W)
  have C3 := Lib.hid (fun W bv bn hne hv hn hs => zzNotEqualHolds ⟨x0, x1, x2, xp, xm, ⟨#[]⟩⟩ ⟨a, b, c, p, ⟨#[]⟩, ⟨#[]⟩⟩ os bv bn (decide (gv < 3)) (gv == 1) (gv == 2) pre sp sq hne W hv hn hs)
  have HS := Aside0.mk hS
  clear hS sp sq hos hg 
  generalize hR : notEqualB ⟨x0, x1, x2, xp, xm, ⟨#[]⟩⟩ ⟨a, b, c, p, ⟨#[]⟩, ⟨#[]⟩⟩ (gv == 1) (decide (gv < 3)) (gv == 2) pre = R at *
  generalize decide (gv < 3) = D at *
  generalize (gv == 1) = D1 at *
  generalize (gv == 2) = D2 at *
  clear hR
  go_enter Tryd.func30, Tryd.ntmps30
  go_wp2_with fail
  generalize hW0 : World.alloc (World.alloc w _) _ = w0
  have t0 : At w0 w.heap.size [.int .i64 op, .int .i64 gv, .int .u64 (a : Int), .int .u64 (b : Int), .int .u64 (c : Int), .string p] := by
    rw [← hW0]
    exact (At.new _ _ _ _ rfl).below ((Below.refl _ _).alloc (Nat.le_refl _) _)
  have v0 : At w0 (w.heap.size + 1) [.int .u64 (x0 : Int), .int .u64 (x1 : Int), .int .u64 (x2 : Int), .string xp, .string xm] := by
    rw [← hW0]
    exact At.new _ _ _ _ (by simp)
  have b0 : Below w.heap.size w w0 := by
    rw [← hW0]
    go_grown
  have HT0 := Aside0.mk t0; have HV0 := Aside0.mk v0; have HB0 := Aside0.mk b0
  clear t0 v0 b0 hW0
  go_region_held3 (fun W' => (W'.cell? ⟨w.heap.size, 0, none⟩ = some (.int .i64 op) ∧ W'.cell? ⟨w.heap.size, 1, none⟩ = some (.int .i64 gv) ∧ W'.cell? ⟨w.heap.size, 2, none⟩ = some (.int .u64 (a : Int)) ∧ W'.cell? ⟨w.heap.size, 3, none⟩ = some (.int .u64 (b : Int)) ∧ W'.cell? ⟨w.heap.size, 4, none⟩ = some (.int .u64 (c : Int)) ∧ W'.cell? ⟨w.heap.size, 5, none⟩ = some (.string p)) ∧
      W'.cell? ⟨w.heap.size + 1, 0, none⟩ = some (.int .u64 (x0 : Int)) ∧ W'.cell? ⟨w.heap.size + 1, 1, none⟩ = some (.int .u64 (x1 : Int)) ∧ W'.cell? ⟨w.heap.size + 1, 2, none⟩ = some (.int .u64 (x2 : Int)) ∧ W'.cell? ⟨w.heap.size + 1, 3, none⟩ = some (.string xp) ∧ W'.cell? ⟨w.heap.size + 1, 4, none⟩ = some (.string xm))
    (first | (with_reducible exact ⟨HT0.out.drew.six, HV0.out.drew.five⟩) | (with_reducible exact ⟨HT3.out.six, HV3.out.five⟩) | (with_reducible exact ⟨HT2.out.six, HV2.out.five⟩) | (with_reducible exact ⟨HT1.out.six, HV1.out.five⟩)) (first
    | (go_at_call 54; (with_reducible refine (C1.out _).mono ?_); rintro e w1 ⟨g1, rfl, hn1, hl1, hb⟩; have hb1 := undrew hb; have HN1 := Aside0.mk hn1; have HT1 := Aside0.mk (HT0.out.below hb1); have HV1 := Aside0.mk (HV0.out.below hb1); have HB1 := Aside0.mk (HB0.out.trans (hb1.mono HB0.out.size)); have HS1 := Aside0.mk (HS.out.below HB1.out); clear hb hb1 hn1 hl1)
    | (go_at_call 55; (with_reducible refine (C2.out _).mono ?_); rintro e w2 ⟨g2, rfl, hv2, hl2, hb2⟩; have HL2 := Aside0.mk hl2; have HU2 := Aside0.mk hv2; have HN2 := Aside0.mk (HN1.out.below hb2); have HT2 := Aside0.mk (HT1.out.below hb2); have HV2 := Aside0.mk (HV1.out.below hb2); have HB2 := Aside0.mk (HB1.out.trans (hb2.mono HB1.out.size)); have HS2 := Aside0.mk (HS1.out.below hb2); clear hb2 hv2 hl2)
    | (go_at_call 64; refine (C3.out _ _ _ (by have := HN1.out.lt; have := HL2.out; omega) HU2.out HN2.out HS2.out).mono ?_; rintro e w3 ⟨er, rfl, hb3⟩; have HT3 := Aside0.mk (HT2.out.below hb3); have HV3 := Aside0.mk (HV2.out.below hb3); have HB3 := Aside0.mk (HB2.out.trans (hb3.mono HB2.out.size)); clear hb3))
  go_wp2_with fail
  go_ret
  exact ⟨rfl, HB3.out⟩

end Go.Proofs.YtllkoadcpobdaaaDoor.KX
namespace Go.Proofs.YtllkoadcpobdaaaDoor.PX

open Go Go.Proofs Go.RowKit Go.Lib Go.Proofs.YtllkoadcpobdaaaDoor Go.Proofs.YtllkoadcpobdaaaDoor.L Go.Proofs.YtllkoadcpobdaaaDoor.Bt Go.Proofs.YtllkoadcpobdaaaDoor.KX

def impl_NotEqualHolds.f (t0 t1 a b c : Int) (p : ByteArray) (x0 x1 x2 : Int) (xp xm : ByteArray) (pre : Bool) : Option Bool :=
  if 0 ≤ t1 ∧ okV a b c p ∧ okV x0 x1 x2 xp then some (notEqualB (vOf x0 x1 x2 xp xm) (vOf a b c p ⟨#[]⟩) (t1 == 1) (decide (t1 < 3)) (t1 == 2) pre) else none

theorem op_some_DNotEqual (t0 : Int) : ∃ os, impl_operator.f t0 = some os := by
  unfold impl_operator.f
  repeat' first
    | exact ⟨_, rfl⟩
    | split

theorem impl_NotEqualHolds.calls (t0 t1 a b c : Int) (p : ByteArray) (x0 x1 x2 : Int) (xp xm : ByteArray) (pre : Bool) (r : Bool) (w : World) (hStd : Std w) (h : impl_NotEqualHolds.f t0 t1 a b c p x0 x1 x2 xp xm pre = some r) :
    Calls Tryd.prog 30 #[.agg #[.int .i64 t0, .int .i64 t1, .int .u64 a, .int .u64 b, .int .u64 c, .string p], .agg #[.int .u64 x0, .int .u64 x1, .int .u64 x2, .string xp, .string xm], .bool pre] w fun e w' => e = .returned (.bool r) ∧ Below w.heap.size w w' := by
  unfold impl_NotEqualHolds.f at h
  by_cases hc : 0 ≤ t1 ∧ okV a b c p ∧ okV x0 x1 x2 xp
  · rw [if_pos hc] at h
    cases h
    obtain ⟨h1, ⟨y0, y1, y2, y3⟩, ⟨z0, z1, z2, z3⟩⟩ := hc
    obtain ⟨a, rfl⟩ := Int.eq_ofNat_of_zero_le y0
    obtain ⟨b, rfl⟩ := Int.eq_ofNat_of_zero_le y1
    obtain ⟨c, rfl⟩ := Int.eq_ofNat_of_zero_le y2
    obtain ⟨x0, rfl⟩ := Int.eq_ofNat_of_zero_le z0
    obtain ⟨x1, rfl⟩ := Int.eq_ofNat_of_zero_le z1
    obtain ⟨x2, rfl⟩ := Int.eq_ofNat_of_zero_le z2
    obtain ⟨os, hos⟩ := op_some_DNotEqual t0
    exact implNotEqualHolds t0 t1 a b c p x0 x1 x2 xp xm pre os hos h1 z3 y3 w hStd
  · rw [if_neg hc] at h
    cases h

end Go.Proofs.YtllkoadcpobdaaaDoor.PX
namespace Go.Proofs.YtllkoadcpobdaaaDoor.PX

open Go.RowKit Go.Proofs.YtllkoadcpobdaaaDoorW.PrintWords Go.Proofs.YtllkoadcpobdaaaDoorW.PrintLast Go.Proofs.YtllkoadcpobdaaaDoorW.PrintMore

attribute [local go_sem] max2_int min2_int max_two min_two max_three min_three max_four min_four   -- for this text's walks alone

set_option linter.unusedVariables false

set_option linter.unusedSimpArgs false

def laws_FnSemverNotEqualHolds.j0 : Nat → Bool → Bool → Int → Int → Int → Int → Int → ByteArray → Int → Int → Int → ByteArray → ByteArray → Option (Bool)
  | 0, _, _, _, _, _, _, _, _, _, _, _, _, _ => none
  | k + 1, x2, x14, x345000, x345001, x345002, x345003, x345004, x345005, x346000, x346001, x346002, x346003, x346004 => if x14 = true then (some true) else ((laws_snAsked.f k x345000 x345001 x345002 x345003 x345004 x345005 1 x346000 x346001 x346002 x346003 x346004).bind fun t348 => (if t348 = true then ((impl_NotEqualHolds.f x345000 x345001 x345002 x345003 x345004 x345005 x346000 x346001 x346002 x346003 x346004 x2).bind fun t349 => ((laws_snWant.f k x345000 x345001 x345002 x345003 x345004 x345005 1 x346000 x346001 x346002 x346003 x346004 x2).bind fun t350 => (some (t349 == t350)))) else (some true)))

def laws_FnSemverNotEqualHolds.f (k : Nat) (a0_0 : Int) (a0_1 : Int) (a0_2 : Int) (a0_3 : Int) (a0_4 : Int) (a0_5 : ByteArray) (a1_0 : Int) (a1_1 : Int) (a1_2 : Int) (a1_3 : ByteArray) (a1_4 : ByteArray) (a2 : Bool) : Option (Bool) := (laws_zzFits13.f a0_0 a0_1 a0_2 a0_3 a0_4 a0_5).bind fun t346 => (if t346 = true then ((laws_zzFits14.f a1_0 a1_1 a1_2 a1_3 a1_4).bind fun t347 => (laws_FnSemverNotEqualHolds.j0 k a2 (!t347) a0_0 a0_1 a0_2 a0_3 a0_4 a0_5 a1_0 a1_1 a1_2 a1_3 a1_4)) else (laws_FnSemverNotEqualHolds.j0 k a2 true a0_0 a0_1 a0_2 a0_3 a0_4 a0_5 a1_0 a1_1 a1_2 a1_3 a1_4))

def laws_FnSemverNotEqualHolds.T3 : Bool × List (List Nat × List Nat) := (true, [([], []), ([], []), ([0, 1], [0, 1]), ([2], [2]), ([3, 2], [3]), ([4], [4]), ([4], [4]), ([4], [4]), ([5, 6, 7, 4, 4], [4, 5, 6, 7]), ([4], [4]), ([4], [4]), ([4], [4]), ([9, 10, 11, 8, 4], [4, 9, 10, 11]), ([8, 12, 4], [4, 8, 12]), ([4, 13], [4, 13]), ([14, 12, 0, 1, 2, 3, 4, 5, 6, 7, 8, 9, 10, 11, 12, 13, 14], [14])])

def laws_FnSemverNotEqualHolds.B3 : List Nat := [0, 0, 3, 7, 15, 31, 31, 31, 255, 31, 31, 31, 4095, 8191, 16383, 32767]

theorem laws_FnSemverNotEqualHolds.tab3 : rtab .any (opsOf Tryd.f6 3) = laws_FnSemverNotEqualHolds.T3 := by kernel_rfl

theorem laws_FnSemverNotEqualHolds.bits3 : waitsOk laws_FnSemverNotEqualHolds.T3.2 laws_FnSemverNotEqualHolds.B3 = true := by kernel_rfl

set_option maxHeartbeats 80000000 in
set_option maxRecDepth 100000 in
theorem laws_FnSemverNotEqualHolds.calls (k : Nat) (a0_0 : Int) (a0_1 : Int) (a0_2 : Int) (a0_3 : Int) (a0_4 : Int) (a0_5 : ByteArray) (a1_0 : Int) (a1_1 : Int) (a1_2 : Int) (a1_3 : ByteArray) (a1_4 : ByteArray) (a2 : Bool) (r : Bool) (w : World) (hStd : Std w) (h : laws_FnSemverNotEqualHolds.f k a0_0 a0_1 a0_2 a0_3 a0_4 a0_5 a1_0 a1_1 a1_2 a1_3 a1_4 a2 = some r) :
    Calls Tryd.prog 6 #[.agg #[.int .i64 a0_0, .int .i64 a0_1, .int .u64 a0_2, .int .u64 a0_3, .int .u64 a0_4, .string a0_5], .agg #[.int .u64 a1_0, .int .u64 a1_1, .int .u64 a1_2, .string a1_3, .string a1_4], .bool a2] w fun e w' => e = .returned (.bool r) ∧ Below w.heap.size w w' := by
  have hu24 := Tryd.underlying24
  have hu26 := Tryd.underlying26
  have HStd := Aside0.mk hStd
  clear hStd
  have HB := Aside0.mk (Below.refl w.heap.size w)
  have H : ((laws_zzFits13.f a0_0 a0_1 a0_2 a0_3 a0_4 a0_5).bind fun t346 => (if t346 = true then ((laws_zzFits14.f a1_0 a1_1 a1_2 a1_3 a1_4).bind fun t347 => (laws_FnSemverNotEqualHolds.j0 k a2 (!t347) a0_0 a0_1 a0_2 a0_3 a0_4 a0_5 a1_0 a1_1 a1_2 a1_3 a1_4)) else (laws_FnSemverNotEqualHolds.j0 k a2 true a0_0 a0_1 a0_2 a0_3 a0_4 a0_5 a1_0 a1_1 a1_2 a1_3 a1_4))) = some r := h
  clear h
  have HC4 := Aside0.mk H
  clear H
  go_enter Tryd.func6, Tryd.ntmps6
  go_upto_region 1 with (first | ((with_reducible refine gate_dst (N := 3) rfl ?_); refine box_event ?hg (N := 3) ?hd (cs := #[.int .i64 a0_0, .int .i64 a0_1, .int .u64 a0_2, .int .u64 a0_3, .int .u64 a0_4, .string a0_5]) (t := 24) ?hr ?_; (case hd => rfl); (case hg => rfl); (case hr => first | (go_simp; done) | (go_simp; rfl) | (go_simp; simp [u8w]; done)); intro gb344 hg w5 hbox hb; have n0_ := Aside0.mk (below_step (by repeat (first | (with_reducible first | exact HB.out | apply below_alloc | apply pw_below_drewN | apply below_drew1) | exact HB.out)) hb); have n1_ := Aside0.mk (hbox); have n2_ := Aside0.mk ((by rw [hg]; exact (below_size (by repeat (first | (with_reducible first | exact HB.out | apply below_alloc | apply pw_below_drewN | apply below_drew1) | exact HB.out))) : w.heap.size ≤ gb344)); have n3_ := Aside0.mk ((by rw [hg]; exact (below_size (by repeat (first | (with_reducible first | exact HB.out | apply below_alloc | apply pw_below_drewN | apply below_drew1) | exact HB.out))) : w.heap.size ≤ gb344)); clear HB; have HB := n0_; have BK344 := n1_; have GW344 := n2_; have GE344 := n3_; clear n0_ n1_ n2_ n3_; clear hb hbox hg) | ((with_reducible refine gate_dst (N := 4) rfl ?_); refine box_event ?hg (N := 4) ?hd (cs := #[.int .u64 a1_0, .int .u64 a1_1, .int .u64 a1_2, .string a1_3, .string a1_4]) (t := 26) ?hr ?_; (case hd => rfl); (case hg => rfl); (case hr => first | (go_simp; done) | (go_simp; rfl) | (go_simp; simp [u8w]; done)); intro gb345 hg w6 hbox hb; have n0_ := Aside0.mk (blk_below (g := gb344) (o := .cells #[.int .i64 a0_0, .int .i64 a0_1, .int .u64 a0_2, .int .u64 a0_3, .int .u64 a0_4, .string a0_5] 24 (0, 0)) (by (with_reducible repeat (first | refine blk_drewN ?_ _ | refine blk_drew ?_ | refine blk_alloc ?_ _)); exact BK344.out) hb); have n1_ := Aside0.mk (below_step (by repeat (first | (with_reducible first | exact HB.out | apply below_alloc | apply pw_below_drewN | apply below_drew1 | refine below_set ?_ GE344.out) | exact HB.out)) hb); have n2_ := Aside0.mk (hbox); have n3_ := Aside0.mk ((by rw [hg]; exact (below_size (by repeat (first | (with_reducible first | exact HB.out | apply below_alloc | apply pw_below_drewN | apply below_drew1 | refine below_set ?_ GE344.out) | exact HB.out))) : w.heap.size ≤ gb345)); have n4_ := Aside0.mk ((by rw [hg]; exact (below_size (by repeat (first | (with_reducible first | exact HB.out | apply below_alloc | apply pw_below_drewN | apply below_drew1 | refine below_set ?_ GE344.out) | exact HB.out))) : w.heap.size ≤ gb345)); have n5_ := Aside0.mk ((by rw [hg]; exact Nat.ne_of_lt (blk_lt (g := gb344) (o := .cells #[.int .i64 a0_0, .int .i64 a0_1, .int .u64 a0_2, .int .u64 a0_3, .int .u64 a0_4, .string a0_5] 24 (0, 0)) (by (with_reducible repeat (first | refine blk_drewN ?_ _ | refine blk_drew ?_ | refine blk_alloc ?_ _)); exact BK344.out)) : gb344 ≠ gb345)); have n6_ := Aside0.mk ((by rw [hg]; exact Nat.ne_of_gt (blk_lt (g := gb344) (o := .cells #[.int .i64 a0_0, .int .i64 a0_1, .int .u64 a0_2, .int .u64 a0_3, .int .u64 a0_4, .string a0_5] 24 (0, 0)) (by (with_reducible repeat (first | refine blk_drewN ?_ _ | refine blk_drew ?_ | refine blk_alloc ?_ _)); exact BK344.out)) : gb345 ≠ gb344)); clear BK344; clear HB; have BK344 := n0_; have HB := n1_; have BK345 := n2_; have GW345 := n3_; have GE345 := n4_; have NB344_345 := n5_; have NB345_344 := n6_; clear n0_ n1_ n2_ n3_ n4_ n5_ n6_; clear hb hbox hg))
  (try simp only [Act.put, List.setIfInBounds_toArray, List.set_cons_zero, List.set_cons_succ])
  go_cut [14] (fun v14 wc => ∃ (kq : Nat) (x14_3 : Bool), v14 = .bool x14_3 ∧ Aside0 (laws_FnSemverNotEqualHolds.j0 kq a2 x14_3 a0_0 a0_1 a0_2 a0_3 a0_4 a0_5 a1_0 a1_1 a1_2 a1_3 a1_4 = some r) ∧ Aside0 (kq ≤ k) ∧ Aside0 (wc.heap[gb344]? = some (.cells #[.int .i64 a0_0, .int .i64 a0_1, .int .u64 a0_2, .int .u64 a0_3, .int .u64 a0_4, .string a0_5] 24 (0, 0))) ∧ Aside0 (wc.heap[gb345]? = some (.cells #[.int .u64 a1_0, .int .u64 a1_1, .int .u64 a1_2, .string a1_3, .string a1_4] 26 (0, 0))) ∧ Aside0 (Below w.heap.size w wc))
  case first =>
    have H := HC4.out
    clear HC4
    replace H := Option.bind_eq_some_iff.mp H
    obtain ⟨t346, A70, H⟩ := H
    replace H : (if t346 = true then ((laws_zzFits14.f a1_0 a1_1 a1_2 a1_3 a1_4).bind fun t347 => (laws_FnSemverNotEqualHolds.j0 k a2 (!t347) a0_0 a0_1 a0_2 a0_3 a0_4 a0_5 a1_0 a1_1 a1_2 a1_3 a1_4)) else (laws_FnSemverNotEqualHolds.j0 k a2 true a0_0 a0_1 a0_2 a0_3 a0_4 a0_5 a1_0 a1_1 a1_2 a1_3 a1_4)) = some r := H
    have A7 := Aside0.mk A70
    clear A70
    by_cases c8 : t346 = true
    · subst c8
      have H1 : ((laws_zzFits14.f a1_0 a1_1 a1_2 a1_3 a1_4).bind fun t347 => (laws_FnSemverNotEqualHolds.j0 k a2 (!t347) a0_0 a0_1 a0_2 a0_3 a0_4 a0_5 a1_0 a1_1 a1_2 a1_3 a1_4)) = some r := by rw [if_pos rfl] at H; exact H
      clear H
      have H := H1
      clear H1
      replace H := Option.bind_eq_some_iff.mp H
      obtain ⟨t347, A90, H⟩ := H
      replace H : (laws_FnSemverNotEqualHolds.j0 k a2 (!t347) a0_0 a0_1 a0_2 a0_3 a0_4 a0_5 a1_0 a1_1 a1_2 a1_3 a1_4) = some r := H
      have A9 := Aside0.mk A90
      clear A90
      have H' := Aside0.mk H
      clear H
      have hnb10 := NB344_345.out
      have hnc10 := NB345_344.out
      have hcz11_0 : w6.cell? ⟨gb344, 0, none⟩ = some (.int .i64 a0_0) := (blk_cell BK344.out 0).trans rfl
      have hcz11_1 : w6.cell? ⟨gb344, 1, none⟩ = some (.int .i64 a0_1) := (blk_cell BK344.out 1).trans rfl
      have hcz11_2 : w6.cell? ⟨gb344, 2, none⟩ = some (.int .u64 a0_2) := (blk_cell BK344.out 2).trans rfl
      have hcz11_3 : w6.cell? ⟨gb344, 3, none⟩ = some (.int .u64 a0_3) := (blk_cell BK344.out 3).trans rfl
      have hcz11_4 : w6.cell? ⟨gb344, 4, none⟩ = some (.int .u64 a0_4) := (blk_cell BK344.out 4).trans rfl
      have hcz11_5 : w6.cell? ⟨gb344, 5, none⟩ = some (.string a0_5) := (blk_cell BK344.out 5).trans rfl
      have hfz11_0 := blk_frozen BK344.out 0
      have hfz11_1 := blk_frozen BK344.out 1
      have hfz11_2 := blk_frozen BK344.out 2
      have hfz11_3 := blk_frozen BK344.out 3
      have hfz11_4 := blk_frozen BK344.out 4
      have hfz11_5 := blk_frozen BK344.out 5
      go_wp2_with (first | ((with_reducible refine gate_callee (f := 13) rfl ?_); refine goesL_ (some 8) rfl rfl Tryd.func13 (by kernel_rfl) rfl #[.agg #[.int .i64 a0_0, .int .i64 a0_1, .int .u64 a0_2, .int .u64 a0_3, .int .u64 a0_4, .string a0_5]] rfl (by (try simp only [List.map_toArray, List.map_cons, List.map_nil]); first | done | rfl | (simp only [List.length_drop, List.length_take]; rfl)) ?_; (with_reducible refine (laws_zzFits13.calls a0_0 a0_1 a0_2 a0_3 a0_4 a0_5 true _ A7.out).mono ?_); rintro e w12 ⟨rfl, hb⟩; refine ⟨_, rfl, ?_⟩; have n0_ := Aside0.mk (blk_below (g := gb344) (o := .cells #[.int .i64 a0_0, .int .i64 a0_1, .int .u64 a0_2, .int .u64 a0_3, .int .u64 a0_4, .string a0_5] 24 (0, 0)) (by (with_reducible repeat (first | refine blk_drewN ?_ _ | refine blk_drew ?_ | refine blk_alloc ?_ _)); exact BK344.out) hb); have n1_ := Aside0.mk (blk_below (g := gb345) (o := .cells #[.int .u64 a1_0, .int .u64 a1_1, .int .u64 a1_2, .string a1_3, .string a1_4] 26 (0, 0)) (by (with_reducible repeat (first | refine blk_drewN ?_ _ | refine blk_drew ?_ | refine blk_alloc ?_ _)); exact BK345.out) hb); have n2_ := Aside0.mk (below_step (by repeat (first | (with_reducible first | exact HB.out | apply below_alloc | apply pw_below_drewN | apply below_drew1 | refine below_set ?_ GE344.out | refine below_set ?_ GE345.out) | exact HB.out)) hb); clear BK344; clear BK345; clear HB; have BK344 := n0_; have BK345 := n1_; have HB := n2_; clear n0_ n1_ n2_; (try clear hb); (try clear hb2); (try clear hk); (try clear hi); have hcz13_0 : w12.cell? ⟨gb345, 0, none⟩ = some (.int .u64 a1_0) := (blk_cell BK345.out 0).trans rfl; have hcz13_1 : w12.cell? ⟨gb345, 1, none⟩ = some (.int .u64 a1_1) := (blk_cell BK345.out 1).trans rfl; have hcz13_2 : w12.cell? ⟨gb345, 2, none⟩ = some (.int .u64 a1_2) := (blk_cell BK345.out 2).trans rfl; have hcz13_3 : w12.cell? ⟨gb345, 3, none⟩ = some (.string a1_3) := (blk_cell BK345.out 3).trans rfl; have hcz13_4 : w12.cell? ⟨gb345, 4, none⟩ = some (.string a1_4) := (blk_cell BK345.out 4).trans rfl; have hfz13_0 := blk_frozen BK345.out 0; have hfz13_1 := blk_frozen BK345.out 1; have hfz13_2 := blk_frozen BK345.out 2; have hfz13_3 := blk_frozen BK345.out 3; have hfz13_4 := blk_frozen BK345.out 4) | (go_at_call 14; (with_reducible refine (laws_zzFits14.calls a1_0 a1_1 a1_2 a1_3 a1_4 t347 _ A9.out).mono ?_); rintro e w14 ⟨rfl, hb⟩; have n0_ := Aside0.mk (blk_below (g := gb344) (o := .cells #[.int .i64 a0_0, .int .i64 a0_1, .int .u64 a0_2, .int .u64 a0_3, .int .u64 a0_4, .string a0_5] 24 (0, 0)) (by (with_reducible repeat (first | refine blk_drewN ?_ _ | refine blk_drew ?_ | refine blk_alloc ?_ _)); exact BK344.out) hb); have n1_ := Aside0.mk (blk_below (g := gb345) (o := .cells #[.int .u64 a1_0, .int .u64 a1_1, .int .u64 a1_2, .string a1_3, .string a1_4] 26 (0, 0)) (by (with_reducible repeat (first | refine blk_drewN ?_ _ | refine blk_drew ?_ | refine blk_alloc ?_ _)); exact BK345.out) hb); have n2_ := Aside0.mk (below_step (by repeat (first | (with_reducible first | exact HB.out | apply below_alloc | apply pw_below_drewN | apply below_drew1 | refine below_set ?_ GE344.out | refine below_set ?_ GE345.out) | exact HB.out)) hb); clear BK344; clear BK345; clear HB; have BK344 := n0_; have BK345 := n1_; have HB := n2_; clear n0_ n1_ n2_; (try clear hb); (try clear hb2); (try clear hk); (try clear hi)))
      go_meet
      case rel => exact ⟨_, (!t347), (by first | rfl | (simp; done) | (simp [*]; done)), H', ⟨by first | omega | exact Nat.le_refl _⟩, ⟨by (with_reducible repeat (first | refine blk_drewN ?_ _ | refine blk_drew ?_ | refine blk_alloc ?_ _)); exact BK344.out⟩, ⟨by (with_reducible repeat (first | refine blk_drewN ?_ _ | refine blk_drew ?_ | refine blk_alloc ?_ _)); exact BK345.out⟩, ⟨by repeat (first | (with_reducible first | exact HB.out | apply below_alloc | apply pw_below_drewN | apply below_drew1 | refine below_set ?_ GE344.out | refine below_set ?_ GE345.out) | exact HB.out)⟩⟩
    · replace c8 := Bool.eq_false_iff.mpr c8
      subst c8
      have H1 : (laws_FnSemverNotEqualHolds.j0 k a2 true a0_0 a0_1 a0_2 a0_3 a0_4 a0_5 a1_0 a1_1 a1_2 a1_3 a1_4) = some r := by rw [if_neg (show ¬ (false = true) by decide)] at H; exact H
      clear H
      have H := H1
      clear H1
      have H' := Aside0.mk H
      clear H
      have hnb15 := NB344_345.out
      have hnc15 := NB345_344.out
      have hcz16_0 : w6.cell? ⟨gb344, 0, none⟩ = some (.int .i64 a0_0) := (blk_cell BK344.out 0).trans rfl
      have hcz16_1 : w6.cell? ⟨gb344, 1, none⟩ = some (.int .i64 a0_1) := (blk_cell BK344.out 1).trans rfl
      have hcz16_2 : w6.cell? ⟨gb344, 2, none⟩ = some (.int .u64 a0_2) := (blk_cell BK344.out 2).trans rfl
      have hcz16_3 : w6.cell? ⟨gb344, 3, none⟩ = some (.int .u64 a0_3) := (blk_cell BK344.out 3).trans rfl
      have hcz16_4 : w6.cell? ⟨gb344, 4, none⟩ = some (.int .u64 a0_4) := (blk_cell BK344.out 4).trans rfl
      have hcz16_5 : w6.cell? ⟨gb344, 5, none⟩ = some (.string a0_5) := (blk_cell BK344.out 5).trans rfl
      have hfz16_0 := blk_frozen BK344.out 0
      have hfz16_1 := blk_frozen BK344.out 1
      have hfz16_2 := blk_frozen BK344.out 2
      have hfz16_3 := blk_frozen BK344.out 3
      have hfz16_4 := blk_frozen BK344.out 4
      have hfz16_5 := blk_frozen BK344.out 5
      go_wp2_with (first | ((with_reducible refine gate_callee (f := 13) rfl ?_); refine goesL_ (some 8) rfl rfl Tryd.func13 (by kernel_rfl) rfl #[.agg #[.int .i64 a0_0, .int .i64 a0_1, .int .u64 a0_2, .int .u64 a0_3, .int .u64 a0_4, .string a0_5]] rfl (by (try simp only [List.map_toArray, List.map_cons, List.map_nil]); first | done | rfl | (simp only [List.length_drop, List.length_take]; rfl)) ?_; (with_reducible refine (laws_zzFits13.calls a0_0 a0_1 a0_2 a0_3 a0_4 a0_5 false _ A7.out).mono ?_); rintro e w17 ⟨rfl, hb⟩; refine ⟨_, rfl, ?_⟩; have n0_ := Aside0.mk (blk_below (g := gb344) (o := .cells #[.int .i64 a0_0, .int .i64 a0_1, .int .u64 a0_2, .int .u64 a0_3, .int .u64 a0_4, .string a0_5] 24 (0, 0)) (by (with_reducible repeat (first | refine blk_drewN ?_ _ | refine blk_drew ?_ | refine blk_alloc ?_ _)); exact BK344.out) hb); have n1_ := Aside0.mk (blk_below (g := gb345) (o := .cells #[.int .u64 a1_0, .int .u64 a1_1, .int .u64 a1_2, .string a1_3, .string a1_4] 26 (0, 0)) (by (with_reducible repeat (first | refine blk_drewN ?_ _ | refine blk_drew ?_ | refine blk_alloc ?_ _)); exact BK345.out) hb); have n2_ := Aside0.mk (below_step (by repeat (first | (with_reducible first | exact HB.out | apply below_alloc | apply pw_below_drewN | apply below_drew1 | refine below_set ?_ GE344.out | refine below_set ?_ GE345.out) | exact HB.out)) hb); clear BK344; clear BK345; clear HB; have BK344 := n0_; have BK345 := n1_; have HB := n2_; clear n0_ n1_ n2_; (try clear hb); (try clear hb2); (try clear hk); (try clear hi)))
      go_meet
      case rel => exact ⟨_, (true), (by first | rfl | (simp; done) | (simp [*]; done)), H', ⟨by first | omega | exact Nat.le_refl _⟩, ⟨by (with_reducible repeat (first | refine blk_drewN ?_ _ | refine blk_drew ?_ | refine blk_alloc ?_ _)); exact BK344.out⟩, ⟨by (with_reducible repeat (first | refine blk_drewN ?_ _ | refine blk_drew ?_ | refine blk_alloc ?_ _)); exact BK345.out⟩, ⟨by repeat (first | (with_reducible first | exact HB.out | apply below_alloc | apply pw_below_drewN | apply below_drew1 | refine below_set ?_ GE344.out | refine below_set ?_ GE345.out) | exact HB.out)⟩⟩
  case rest =>
    clear HC4
    try clear c1
    try clear p2
    try clear c6
    try clear c8
    try clear c10
    try clear c13
    try clear c15
    try clear hcz11_0
    try clear hcz11_1
    try clear hcz11_2
    try clear hcz11_3
    try clear hcz11_4
    try clear hcz11_5
    try clear hcz13_0
    try clear hcz13_1
    try clear hcz13_2
    try clear hcz13_3
    try clear hcz13_4
    try clear hcz16_0
    try clear hcz16_1
    try clear hcz16_2
    try clear hcz16_3
    try clear hcz16_4
    try clear hcz16_5
    try clear hfz11_0
    try clear hfz11_1
    try clear hfz11_2
    try clear hfz11_3
    try clear hfz11_4
    try clear hfz11_5
    try clear hfz13_0
    try clear hfz13_1
    try clear hfz13_2
    try clear hfz13_3
    try clear hfz13_4
    try clear hfz16_0
    try clear hfz16_1
    try clear hfz16_2
    try clear hfz16_3
    try clear hfz16_4
    try clear hfz16_5
    obtain ⟨kq, x14_3, rfl, HA, HJ3, BK344, BK345, HB⟩ := hcut
    cases kq with
    | zero => exact absurd HA.out (by simp [laws_FnSemverNotEqualHolds.j0])
    | succ kj3 =>
      have H := HA.out
      clear HA
      simp only [laws_FnSemverNotEqualHolds.j0] at H
      by_cases c18 : x14_3 = true
      · subst c18
        have H1 : (some true) = some r := by rw [if_pos rfl] at H; exact H
        clear H
        have H := H1
        clear H1
        obtain rfl := Option.some.inj H
        go_wp2
        go_ret
        exact ⟨by first | rfl | (simp [errW_none, errW_some] <;> rfl) | (simp [*, errW_none, errW_some] <;> rfl) | (simp [bneNil]; done), by repeat (first | (with_reducible first | exact HB.out | apply below_alloc | apply pw_below_drewN | apply below_drew1 | refine below_set ?_ GE344.out | refine below_set ?_ GE345.out) | exact HB.out)⟩
      · replace c18 := Bool.eq_false_iff.mpr c18
        subst c18
        have H1 : ((laws_snAsked.f kj3 a0_0 a0_1 a0_2 a0_3 a0_4 a0_5 1 a1_0 a1_1 a1_2 a1_3 a1_4).bind fun t348 => (if t348 = true then ((impl_NotEqualHolds.f a0_0 a0_1 a0_2 a0_3 a0_4 a0_5 a1_0 a1_1 a1_2 a1_3 a1_4 a2).bind fun t349 => ((laws_snWant.f kj3 a0_0 a0_1 a0_2 a0_3 a0_4 a0_5 1 a1_0 a1_1 a1_2 a1_3 a1_4 a2).bind fun t350 => (some (t349 == t350)))) else (some true))) = some r := by rw [if_neg (show ¬ (false = true) by decide)] at H; exact H
        clear H
        have H := H1
        clear H1
        replace H := Option.bind_eq_some_iff.mp H
        obtain ⟨t348, A190, H⟩ := H
        replace H : (if t348 = true then ((impl_NotEqualHolds.f a0_0 a0_1 a0_2 a0_3 a0_4 a0_5 a1_0 a1_1 a1_2 a1_3 a1_4 a2).bind fun t349 => ((laws_snWant.f kj3 a0_0 a0_1 a0_2 a0_3 a0_4 a0_5 1 a1_0 a1_1 a1_2 a1_3 a1_4 a2).bind fun t350 => (some (t349 == t350)))) else (some true)) = some r := H
        have A19 := Aside0.mk A190
        clear A190
        by_cases c20 : t348 = true
        · subst c20
          have H1 : ((impl_NotEqualHolds.f a0_0 a0_1 a0_2 a0_3 a0_4 a0_5 a1_0 a1_1 a1_2 a1_3 a1_4 a2).bind fun t349 => ((laws_snWant.f kj3 a0_0 a0_1 a0_2 a0_3 a0_4 a0_5 1 a1_0 a1_1 a1_2 a1_3 a1_4 a2).bind fun t350 => (some (t349 == t350)))) = some r := by rw [if_pos rfl] at H; exact H
          clear H
          have H := H1
          clear H1
          replace H := Option.bind_eq_some_iff.mp H
          obtain ⟨t349, A210, H⟩ := H
          replace H : ((laws_snWant.f kj3 a0_0 a0_1 a0_2 a0_3 a0_4 a0_5 1 a1_0 a1_1 a1_2 a1_3 a1_4 a2).bind fun t350 => (some (t349 == t350))) = some r := H
          have A21 := Aside0.mk A210
          clear A210
          replace H := Option.bind_eq_some_iff.mp H
          obtain ⟨t350, A220, H⟩ := H
          replace H : (some (t349 == t350)) = some r := H
          have A22 := Aside0.mk A220
          clear A220
          obtain rfl := Option.some.inj H
          try go_wp2
          have n0_ := Aside0.mk (blk_drew BK344.out)
          have n1_ := Aside0.mk (blk_drew BK345.out)
          have n2_ := Aside0.mk (below_drew1 HB.out)
          clear BK344
          clear BK345
          clear HB
          have BK344 := n0_
          have BK345 := n1_
          have HB := n2_
          clear n0_ n1_ n2_
          refine start_ (n := 16) (S := fun w' => w'.cell? ⟨gb344, 0, none⟩ = some (.int .i64 a0_0) ∧ w'.cell? ⟨gb344, 1, none⟩ = some (.int .i64 a0_1) ∧ w'.cell? ⟨gb344, 2, none⟩ = some (.int .u64 a0_2) ∧ w'.cell? ⟨gb344, 3, none⟩ = some (.int .u64 a0_3) ∧ w'.cell? ⟨gb344, 4, none⟩ = some (.int .u64 a0_4) ∧ w'.cell? ⟨gb344, 5, none⟩ = some (.string a0_5) ∧ w'.cell? ⟨gb345, 0, none⟩ = some (.int .u64 a1_0) ∧ w'.cell? ⟨gb345, 1, none⟩ = some (.int .u64 a1_1) ∧ w'.cell? ⟨gb345, 2, none⟩ = some (.int .u64 a1_2) ∧ w'.cell? ⟨gb345, 3, none⟩ = some (.string a1_3) ∧ w'.cell? ⟨gb345, 4, none⟩ = some (.string a1_4)) (ds := []) #[false, false, false, false, false, false, false, false, false, false, false, false, false, false, false, false] (by kernel_rfl) rfl rfl ⟨(blk_cell BK344.out 0).trans rfl, (blk_cell BK344.out 1).trans rfl, (blk_cell BK344.out 2).trans rfl, (blk_cell BK344.out 3).trans rfl, (blk_cell BK344.out 4).trans rfl, (blk_cell BK344.out 5).trans rfl, (blk_cell BK345.out 0).trans rfl, (blk_cell BK345.out 1).trans rfl, (blk_cell BK345.out 2).trans rfl, (blk_cell BK345.out 3).trans rfl, (blk_cell BK345.out 4).trans rfl⟩ (fun hHeld => ?_); refine with_tabW laws_FnSemverNotEqualHolds.tab3 laws_FnSemverNotEqualHolds.bits3 (fun HT_ HW_ => ?_)
          generalize wc.drew = w23 at BK344 BK345 HB hHeld ⊢
          refine take_ (i := 0) (N := some 15) (v := ?_) (a' := ?_) #[true, false, false, false, false, false, false, false, false, false, false, false, false, false, false, false] rfl rfl (take_ofW HT_.out HW_.out (by kernel_rfl)) (fun _ _ _ h => h) (Or.inl ⟨by rfl, ?_⟩) hHeld ?_ ?_
          rotate_left
          · rintro w' ⟨s0, s1, s2, s3, s4, s5, s6, s7, s8, s9, s10⟩
            go_simp
            with_reducible rfl
          rotate_left
          · simp only [Act.put, List.setIfInBounds_toArray, List.set_cons_zero, List.set_cons_succ, i64_w, i32_w]
            rfl
          refine take_ (i := 1) (N := some 16) (v := ?_) (a' := ?_) #[true, true, false, false, false, false, false, false, false, false, false, false, false, false, false, false] rfl rfl (take_ofW HT_.out HW_.out (by kernel_rfl)) (fun _ _ _ h => h) (Or.inl ⟨by rfl, ?_⟩) hHeld ?_ ?_
          rotate_left
          · rintro w' ⟨s0, s1, s2, s3, s4, s5, s6, s7, s8, s9, s10⟩
            go_simp
            with_reducible rfl
          rotate_left
          · simp only [Act.put, List.setIfInBounds_toArray, List.set_cons_zero, List.set_cons_succ, i64_w, i32_w]
            rfl
          refine one_ (i := 2) (N := some 17) #[true, true, true, false, false, false, false, false, false, false, false, false, false, false, false, false] rfl rfl (one_of HT_.out (by kernel_rfl)) (by decide) (fun K hK => ?_)
          refine goes_ Tryd.func29 (by kernel_rfl) rfl #[.agg #[.int .i64 a0_0, .int .i64 a0_1, .int .u64 a0_2, .int .u64 a0_3, .int .u64 a0_4, .string a0_5], .int .i64 1, .agg #[.int .u64 a1_0, .int .u64 a1_1, .int .u64 a1_2, .string a1_3, .string a1_4]] (by rfl) rfl rfl (by (try simp only [List.map_toArray, List.map_cons, List.map_nil]); first | done | rfl | (simp only [List.length_drop, List.length_take]; rfl)) ?_
          with_reducible refine (laws_snAsked.calls kj3 a0_0 a0_1 a0_2 a0_3 a0_4 a0_5 1 a1_0 a1_1 a1_2 a1_3 a1_4 true _ A19.out).mono ?_
          rintro e w24 ⟨rfl, hb⟩
          refine ⟨_, rfl, ?_⟩
          have n0_ := Aside0.mk (blk_below (g := gb344) (o := .cells #[.int .i64 a0_0, .int .i64 a0_1, .int .u64 a0_2, .int .u64 a0_3, .int .u64 a0_4, .string a0_5] 24 (0, 0)) (by (with_reducible repeat (first | refine blk_drewN ?_ _ | refine blk_drew ?_ | refine blk_alloc ?_ _)); exact BK344.out) hb)
          have n1_ := Aside0.mk (blk_below (g := gb345) (o := .cells #[.int .u64 a1_0, .int .u64 a1_1, .int .u64 a1_2, .string a1_3, .string a1_4] 26 (0, 0)) (by (with_reducible repeat (first | refine blk_drewN ?_ _ | refine blk_drew ?_ | refine blk_alloc ?_ _)); exact BK345.out) hb)
          have n2_ := Aside0.mk (below_step (by repeat (first | (with_reducible first | exact HB.out | apply below_alloc | apply pw_below_drewN | apply below_drew1 | refine below_set ?_ GE344.out | refine below_set ?_ GE345.out) | exact HB.out)) hb)
          clear BK344
          clear BK345
          clear HB
          have BK344 := n0_
          have BK345 := n1_
          have HB := n2_
          clear n0_ n1_ n2_
          (try clear hb)
          (try clear hb2)
          (try clear hk)
          (try clear hi)
          refine hK.out _ _ ⟨(blk_cell BK344.out 0).trans rfl, (blk_cell BK344.out 1).trans rfl, (blk_cell BK344.out 2).trans rfl, (blk_cell BK344.out 3).trans rfl, (blk_cell BK344.out 4).trans rfl, (blk_cell BK344.out 5).trans rfl, (blk_cell BK345.out 0).trans rfl, (blk_cell BK345.out 1).trans rfl, (blk_cell BK345.out 2).trans rfl, (blk_cell BK345.out 3).trans rfl, (blk_cell BK345.out 4).trans rfl⟩ (fun hHeld => ?_)
          clear hK K
          refine norm_ (a' := ?_) ?_ ?_
          rotate_left
          · show Act.put _ (some 17) _ = _
            simp only [Act.put, List.setIfInBounds_toArray, List.set_cons_zero, List.set_cons_succ, i64_w, i32_w]
            rfl
          refine pure_ (i := 3) (N := some 18) (v := ?_) (a' := ?_) #[true, true, true, true, false, false, false, false, false, false, false, false, false, false, false, false] rfl rfl (any_of HT_.out (by kernel_rfl)) (fun _ _ _ h => h) (Or.inl ⟨by rfl, ?_⟩) ?_ ?_
          rotate_left
          · intro w'
            go_simp
            with_reducible rfl
          rotate_left
          · simp only [Act.put, List.setIfInBounds_toArray, List.set_cons_zero, List.set_cons_succ, i64_w, i32_w]
            rfl
          refine pure_ (i := 4) (N := some 19) (v := ?_) (a' := ?_) #[true, true, true, true, true, false, false, false, false, false, false, false, false, false, false, false] rfl rfl (any_of HT_.out (by kernel_rfl)) (fun _ _ _ h => h) (Or.inl ⟨by rfl, ?_⟩) ?_ ?_
          rotate_left
          · intro w'
            go_simp
            with_reducible rfl
          rotate_left
          · simp only [Act.put, List.setIfInBounds_toArray, List.set_cons_zero, List.set_cons_succ, i64_w, i32_w]
            rfl
          refine pure_ (i := 7) (N := some 22) (v := ?_) (a' := ?_) #[true, true, true, true, true, false, false, true, false, false, false, false, false, false, false, false] rfl rfl (any_of HT_.out (by kernel_rfl)) (fun _ _ _ h => h) (Or.inl ⟨by rfl, ?_⟩) ?_ ?_
          rotate_left
          · intro w'
            go_simp
            with_reducible rfl
          rotate_left
          · simp only [Act.put, List.setIfInBounds_toArray, List.set_cons_zero, List.set_cons_succ, i64_w, i32_w]
            rfl
          refine pure_ (i := 11) (N := some 26) (v := ?_) (a' := ?_) #[true, true, true, true, true, false, false, true, false, false, false, true, false, false, false, false] rfl rfl (any_of HT_.out (by kernel_rfl)) (fun _ _ _ h => h) (Or.inl ⟨by rfl, ?_⟩) ?_ ?_
          rotate_left
          · intro w'
            go_simp
            with_reducible rfl
          rotate_left
          · simp only [Act.put, List.setIfInBounds_toArray, List.set_cons_zero, List.set_cons_succ, i64_w, i32_w]
            rfl
          refine take_ (i := 5) (N := some 20) (v := ?_) (a' := ?_) #[true, true, true, true, true, true, false, true, false, false, false, true, false, false, false, false] rfl rfl (take_ofW HT_.out HW_.out (by kernel_rfl)) (fun _ _ _ h => h) (Or.inl ⟨by rfl, ?_⟩) hHeld ?_ ?_
          rotate_left
          · rintro w' ⟨s0, s1, s2, s3, s4, s5, s6, s7, s8, s9, s10⟩
            go_simp
            with_reducible rfl
          rotate_left
          · simp only [Act.put, List.setIfInBounds_toArray, List.set_cons_zero, List.set_cons_succ, i64_w, i32_w]
            rfl
          refine take_ (i := 6) (N := some 21) (v := ?_) (a' := ?_) #[true, true, true, true, true, true, true, true, false, false, false, true, false, false, false, false] rfl rfl (take_ofW HT_.out HW_.out (by kernel_rfl)) (fun _ _ _ h => h) (Or.inl ⟨by rfl, ?_⟩) hHeld ?_ ?_
          rotate_left
          · rintro w' ⟨s0, s1, s2, s3, s4, s5, s6, s7, s8, s9, s10⟩
            go_simp
            with_reducible rfl
          rotate_left
          · simp only [Act.put, List.setIfInBounds_toArray, List.set_cons_zero, List.set_cons_succ, i64_w, i32_w]
            rfl
          refine take_ (i := 9) (N := some 24) (v := ?_) (a' := ?_) #[true, true, true, true, true, true, true, true, false, true, false, true, false, false, false, false] rfl rfl (take_ofW HT_.out HW_.out (by kernel_rfl)) (fun _ _ _ h => h) (Or.inl ⟨by rfl, ?_⟩) hHeld ?_ ?_
          rotate_left
          · rintro w' ⟨s0, s1, s2, s3, s4, s5, s6, s7, s8, s9, s10⟩
            go_simp
            with_reducible rfl
          rotate_left
          · simp only [Act.put, List.setIfInBounds_toArray, List.set_cons_zero, List.set_cons_succ, i64_w, i32_w]
            rfl
          refine take_ (i := 10) (N := some 25) (v := ?_) (a' := ?_) #[true, true, true, true, true, true, true, true, false, true, true, true, false, false, false, false] rfl rfl (take_ofW HT_.out HW_.out (by kernel_rfl)) (fun _ _ _ h => h) (Or.inl ⟨by rfl, ?_⟩) hHeld ?_ ?_
          rotate_left
          · rintro w' ⟨s0, s1, s2, s3, s4, s5, s6, s7, s8, s9, s10⟩
            go_simp
            with_reducible rfl
          rotate_left
          · simp only [Act.put, List.setIfInBounds_toArray, List.set_cons_zero, List.set_cons_succ, i64_w, i32_w]
            rfl
          refine one_ (i := 8) (N := some 23) #[true, true, true, true, true, true, true, true, true, true, true, true, false, false, false, false] rfl rfl (one_of HT_.out (by kernel_rfl)) (by decide) (fun K hK => ?_)
          refine goes_ Tryd.func30 (by kernel_rfl) rfl #[.agg #[.int .i64 a0_0, .int .i64 a0_1, .int .u64 a0_2, .int .u64 a0_3, .int .u64 a0_4, .string a0_5], .agg #[.int .u64 a1_0, .int .u64 a1_1, .int .u64 a1_2, .string a1_3, .string a1_4], .bool a2] (by rfl) rfl rfl (by (try simp only [List.map_toArray, List.map_cons, List.map_nil]); first | done | rfl | (simp only [List.length_drop, List.length_take]; rfl)) ?_
          with_reducible refine (impl_NotEqualHolds.calls a0_0 a0_1 a0_2 a0_3 a0_4 a0_5 a1_0 a1_1 a1_2 a1_3 a1_4 a2 t349 _ ?side1 A21.out).mono ?_
          (case side1 => exact HStd.out.below (by repeat (first | (with_reducible first | exact HB.out | apply below_alloc | apply pw_below_drewN | apply below_drew1 | refine below_set ?_ GE344.out | refine below_set ?_ GE345.out) | exact HB.out)))
          rintro e w25 ⟨rfl, hb⟩
          refine ⟨_, rfl, ?_⟩
          have n0_ := Aside0.mk (blk_below (g := gb344) (o := .cells #[.int .i64 a0_0, .int .i64 a0_1, .int .u64 a0_2, .int .u64 a0_3, .int .u64 a0_4, .string a0_5] 24 (0, 0)) (by (with_reducible repeat (first | refine blk_drewN ?_ _ | refine blk_drew ?_ | refine blk_alloc ?_ _)); exact BK344.out) hb)
          have n1_ := Aside0.mk (blk_below (g := gb345) (o := .cells #[.int .u64 a1_0, .int .u64 a1_1, .int .u64 a1_2, .string a1_3, .string a1_4] 26 (0, 0)) (by (with_reducible repeat (first | refine blk_drewN ?_ _ | refine blk_drew ?_ | refine blk_alloc ?_ _)); exact BK345.out) hb)
          have n2_ := Aside0.mk (below_step (by repeat (first | (with_reducible first | exact HB.out | apply below_alloc | apply pw_below_drewN | apply below_drew1 | refine below_set ?_ GE344.out | refine below_set ?_ GE345.out) | exact HB.out)) hb)
          clear BK344
          clear BK345
          clear HB
          have BK344 := n0_
          have BK345 := n1_
          have HB := n2_
          clear n0_ n1_ n2_
          (try clear hb)
          (try clear hb2)
          (try clear hk)
          (try clear hi)
          refine hK.out _ _ ⟨(blk_cell BK344.out 0).trans rfl, (blk_cell BK344.out 1).trans rfl, (blk_cell BK344.out 2).trans rfl, (blk_cell BK344.out 3).trans rfl, (blk_cell BK344.out 4).trans rfl, (blk_cell BK344.out 5).trans rfl, (blk_cell BK345.out 0).trans rfl, (blk_cell BK345.out 1).trans rfl, (blk_cell BK345.out 2).trans rfl, (blk_cell BK345.out 3).trans rfl, (blk_cell BK345.out 4).trans rfl⟩ (fun hHeld => ?_)
          clear hK K
          refine norm_ (a' := ?_) ?_ ?_
          rotate_left
          · show Act.put _ (some 23) _ = _
            simp only [Act.put, List.setIfInBounds_toArray, List.set_cons_zero, List.set_cons_succ, i64_w, i32_w]
            rfl
          refine one_ (i := 12) (N := some 27) #[true, true, true, true, true, true, true, true, true, true, true, true, true, false, false, false] rfl rfl (one_of HT_.out (by kernel_rfl)) (by decide) (fun K hK => ?_)
          refine goes_ Tryd.func31 (by kernel_rfl) rfl #[.agg #[.int .i64 a0_0, .int .i64 a0_1, .int .u64 a0_2, .int .u64 a0_3, .int .u64 a0_4, .string a0_5], .int .i64 1, .agg #[.int .u64 a1_0, .int .u64 a1_1, .int .u64 a1_2, .string a1_3, .string a1_4], .bool a2] (by rfl) rfl rfl (by (try simp only [List.map_toArray, List.map_cons, List.map_nil]); first | done | rfl | (simp only [List.length_drop, List.length_take]; rfl)) ?_
          with_reducible refine (laws_snWant.calls kj3 a0_0 a0_1 a0_2 a0_3 a0_4 a0_5 1 a1_0 a1_1 a1_2 a1_3 a1_4 a2 t350 _ A22.out).mono ?_
          rintro e w26 ⟨rfl, hb⟩
          refine ⟨_, rfl, ?_⟩
          have n0_ := Aside0.mk (blk_below (g := gb344) (o := .cells #[.int .i64 a0_0, .int .i64 a0_1, .int .u64 a0_2, .int .u64 a0_3, .int .u64 a0_4, .string a0_5] 24 (0, 0)) (by (with_reducible repeat (first | refine blk_drewN ?_ _ | refine blk_drew ?_ | refine blk_alloc ?_ _)); exact BK344.out) hb)
          have n1_ := Aside0.mk (blk_below (g := gb345) (o := .cells #[.int .u64 a1_0, .int .u64 a1_1, .int .u64 a1_2, .string a1_3, .string a1_4] 26 (0, 0)) (by (with_reducible repeat (first | refine blk_drewN ?_ _ | refine blk_drew ?_ | refine blk_alloc ?_ _)); exact BK345.out) hb)
          have n2_ := Aside0.mk (below_step (by repeat (first | (with_reducible first | exact HB.out | apply below_alloc | apply pw_below_drewN | apply below_drew1 | refine below_set ?_ GE344.out | refine below_set ?_ GE345.out) | exact HB.out)) hb)
          clear BK344
          clear BK345
          clear HB
          have BK344 := n0_
          have BK345 := n1_
          have HB := n2_
          clear n0_ n1_ n2_
          (try clear hb)
          (try clear hb2)
          (try clear hk)
          (try clear hi)
          refine hK.out _ _ ⟨(blk_cell BK344.out 0).trans rfl, (blk_cell BK344.out 1).trans rfl, (blk_cell BK344.out 2).trans rfl, (blk_cell BK344.out 3).trans rfl, (blk_cell BK344.out 4).trans rfl, (blk_cell BK344.out 5).trans rfl, (blk_cell BK345.out 0).trans rfl, (blk_cell BK345.out 1).trans rfl, (blk_cell BK345.out 2).trans rfl, (blk_cell BK345.out 3).trans rfl, (blk_cell BK345.out 4).trans rfl⟩ (fun hHeld => ?_)
          clear hK K
          refine norm_ (a' := ?_) ?_ ?_
          rotate_left
          · show Act.put _ (some 27) _ = _
            simp only [Act.put, List.setIfInBounds_toArray, List.set_cons_zero, List.set_cons_succ, i64_w, i32_w]
            rfl
          refine pure_ (i := 13) (N := some 28) (v := ?_) (a' := ?_) #[true, true, true, true, true, true, true, true, true, true, true, true, true, true, false, false] rfl rfl (any_of HT_.out (by kernel_rfl)) (fun _ _ _ h => h) (Or.inl ⟨by rfl, ?_⟩) ?_ ?_
          rotate_left
          · intro w'
            go_simp
            with_reducible rfl
          rotate_left
          · simp only [Act.put, List.setIfInBounds_toArray, List.set_cons_zero, List.set_cons_succ, i64_w, i32_w]
            rfl
          refine pure_ (i := 14) (N := some 29) (v := ?_) (a' := ?_) #[true, true, true, true, true, true, true, true, true, true, true, true, true, true, true, false] rfl rfl (any_of HT_.out (by kernel_rfl)) (fun _ _ _ h => h) (Or.inl ⟨by rfl, ?_⟩) ?_ ?_
          rotate_left
          · intro w'
            go_simp
            with_reducible rfl
          rotate_left
          · simp only [Act.put, List.setIfInBounds_toArray, List.set_cons_zero, List.set_cons_succ, i64_w, i32_w]
            rfl
          refine pure_ (i := 15) (N := some 6) (v := ?_) (a' := ?_) #[true, true, true, true, true, true, true, true, true, true, true, true, true, true, true, true] rfl rfl (any_of HT_.out (by kernel_rfl)) (fun _ _ _ h => h) (Or.inl ⟨by rfl, ?_⟩) ?_ ?_
          rotate_left
          · intro w'
            go_simp
            with_reducible rfl
          rotate_left
          · simp only [Act.put, List.setIfInBounds_toArray, List.set_cons_zero, List.set_cons_succ, i64_w, i32_w]
            rfl
          refine done_ (done_of HT_.out (by kernel_rfl)) ?_
          try go_wp2
          go_ret
          exact ⟨by first | rfl | (simp [errW_none, errW_some] <;> rfl) | (simp [*, errW_none, errW_some] <;> rfl) | (simp [bneNil]; done), by repeat (first | (with_reducible first | exact HB.out | apply below_alloc | apply pw_below_drewN | apply below_drew1 | refine below_set ?_ GE344.out | refine below_set ?_ GE345.out) | exact HB.out)⟩
        · replace c20 := Bool.eq_false_iff.mpr c20
          subst c20
          have H1 : (some true) = some r := by rw [if_neg (show ¬ (false = true) by decide)] at H; exact H
          clear H
          have H := H1
          clear H1
          obtain rfl := Option.some.inj H
          try go_wp2
          have n0_ := Aside0.mk (blk_drew BK344.out)
          have n1_ := Aside0.mk (blk_drew BK345.out)
          have n2_ := Aside0.mk (below_drew1 HB.out)
          clear BK344
          clear BK345
          clear HB
          have BK344 := n0_
          have BK345 := n1_
          have HB := n2_
          clear n0_ n1_ n2_
          refine start_ (n := 16) (S := fun w' => w'.cell? ⟨gb344, 0, none⟩ = some (.int .i64 a0_0) ∧ w'.cell? ⟨gb344, 1, none⟩ = some (.int .i64 a0_1) ∧ w'.cell? ⟨gb344, 2, none⟩ = some (.int .u64 a0_2) ∧ w'.cell? ⟨gb344, 3, none⟩ = some (.int .u64 a0_3) ∧ w'.cell? ⟨gb344, 4, none⟩ = some (.int .u64 a0_4) ∧ w'.cell? ⟨gb344, 5, none⟩ = some (.string a0_5) ∧ w'.cell? ⟨gb345, 0, none⟩ = some (.int .u64 a1_0) ∧ w'.cell? ⟨gb345, 1, none⟩ = some (.int .u64 a1_1) ∧ w'.cell? ⟨gb345, 2, none⟩ = some (.int .u64 a1_2) ∧ w'.cell? ⟨gb345, 3, none⟩ = some (.string a1_3) ∧ w'.cell? ⟨gb345, 4, none⟩ = some (.string a1_4)) (ds := []) #[false, false, false, false, false, false, false, false, false, false, false, false, false, false, false, false] (by kernel_rfl) rfl rfl ⟨(blk_cell BK344.out 0).trans rfl, (blk_cell BK344.out 1).trans rfl, (blk_cell BK344.out 2).trans rfl, (blk_cell BK344.out 3).trans rfl, (blk_cell BK344.out 4).trans rfl, (blk_cell BK344.out 5).trans rfl, (blk_cell BK345.out 0).trans rfl, (blk_cell BK345.out 1).trans rfl, (blk_cell BK345.out 2).trans rfl, (blk_cell BK345.out 3).trans rfl, (blk_cell BK345.out 4).trans rfl⟩ (fun hHeld => ?_); refine with_tabW laws_FnSemverNotEqualHolds.tab3 laws_FnSemverNotEqualHolds.bits3 (fun HT_ HW_ => ?_)
          generalize wc.drew = w27 at BK344 BK345 HB hHeld ⊢
          refine take_ (i := 0) (N := some 15) (v := ?_) (a' := ?_) #[true, false, false, false, false, false, false, false, false, false, false, false, false, false, false, false] rfl rfl (take_ofW HT_.out HW_.out (by kernel_rfl)) (fun _ _ _ h => h) (Or.inl ⟨by rfl, ?_⟩) hHeld ?_ ?_
          rotate_left
          · rintro w' ⟨s0, s1, s2, s3, s4, s5, s6, s7, s8, s9, s10⟩
            go_simp
            with_reducible rfl
          rotate_left
          · simp only [Act.put, List.setIfInBounds_toArray, List.set_cons_zero, List.set_cons_succ, i64_w, i32_w]
            rfl
          refine take_ (i := 1) (N := some 16) (v := ?_) (a' := ?_) #[true, true, false, false, false, false, false, false, false, false, false, false, false, false, false, false] rfl rfl (take_ofW HT_.out HW_.out (by kernel_rfl)) (fun _ _ _ h => h) (Or.inl ⟨by rfl, ?_⟩) hHeld ?_ ?_
          rotate_left
          · rintro w' ⟨s0, s1, s2, s3, s4, s5, s6, s7, s8, s9, s10⟩
            go_simp
            with_reducible rfl
          rotate_left
          · simp only [Act.put, List.setIfInBounds_toArray, List.set_cons_zero, List.set_cons_succ, i64_w, i32_w]
            rfl
          refine one_ (i := 2) (N := some 17) #[true, true, true, false, false, false, false, false, false, false, false, false, false, false, false, false] rfl rfl (one_of HT_.out (by kernel_rfl)) (by decide) (fun K hK => ?_)
          refine goes_ Tryd.func29 (by kernel_rfl) rfl #[.agg #[.int .i64 a0_0, .int .i64 a0_1, .int .u64 a0_2, .int .u64 a0_3, .int .u64 a0_4, .string a0_5], .int .i64 1, .agg #[.int .u64 a1_0, .int .u64 a1_1, .int .u64 a1_2, .string a1_3, .string a1_4]] (by rfl) rfl rfl (by (try simp only [List.map_toArray, List.map_cons, List.map_nil]); first | done | rfl | (simp only [List.length_drop, List.length_take]; rfl)) ?_
          with_reducible refine (laws_snAsked.calls kj3 a0_0 a0_1 a0_2 a0_3 a0_4 a0_5 1 a1_0 a1_1 a1_2 a1_3 a1_4 false _ A19.out).mono ?_
          rintro e w28 ⟨rfl, hb⟩
          refine ⟨_, rfl, ?_⟩
          have n0_ := Aside0.mk (blk_below (g := gb344) (o := .cells #[.int .i64 a0_0, .int .i64 a0_1, .int .u64 a0_2, .int .u64 a0_3, .int .u64 a0_4, .string a0_5] 24 (0, 0)) (by (with_reducible repeat (first | refine blk_drewN ?_ _ | refine blk_drew ?_ | refine blk_alloc ?_ _)); exact BK344.out) hb)
          have n1_ := Aside0.mk (blk_below (g := gb345) (o := .cells #[.int .u64 a1_0, .int .u64 a1_1, .int .u64 a1_2, .string a1_3, .string a1_4] 26 (0, 0)) (by (with_reducible repeat (first | refine blk_drewN ?_ _ | refine blk_drew ?_ | refine blk_alloc ?_ _)); exact BK345.out) hb)
          have n2_ := Aside0.mk (below_step (by repeat (first | (with_reducible first | exact HB.out | apply below_alloc | apply pw_below_drewN | apply below_drew1 | refine below_set ?_ GE344.out | refine below_set ?_ GE345.out) | exact HB.out)) hb)
          clear BK344
          clear BK345
          clear HB
          have BK344 := n0_
          have BK345 := n1_
          have HB := n2_
          clear n0_ n1_ n2_
          (try clear hb)
          (try clear hb2)
          (try clear hk)
          (try clear hi)
          refine hK.out _ _ ⟨(blk_cell BK344.out 0).trans rfl, (blk_cell BK344.out 1).trans rfl, (blk_cell BK344.out 2).trans rfl, (blk_cell BK344.out 3).trans rfl, (blk_cell BK344.out 4).trans rfl, (blk_cell BK344.out 5).trans rfl, (blk_cell BK345.out 0).trans rfl, (blk_cell BK345.out 1).trans rfl, (blk_cell BK345.out 2).trans rfl, (blk_cell BK345.out 3).trans rfl, (blk_cell BK345.out 4).trans rfl⟩ (fun hHeld => ?_)
          clear hK K
          refine norm_ (a' := ?_) ?_ ?_
          rotate_left
          · show Act.put _ (some 17) _ = _
            simp only [Act.put, List.setIfInBounds_toArray, List.set_cons_zero, List.set_cons_succ, i64_w, i32_w]
            rfl
          refine pure_ (i := 3) (N := some 18) (v := ?_) (a' := ?_) #[true, true, true, true, false, false, false, false, false, false, false, false, false, false, false, false] rfl rfl (any_of HT_.out (by kernel_rfl)) (fun _ _ _ h => h) (Or.inl ⟨by rfl, ?_⟩) ?_ ?_
          rotate_left
          · intro w'
            go_simp
            with_reducible rfl
          rotate_left
          · simp only [Act.put, List.setIfInBounds_toArray, List.set_cons_zero, List.set_cons_succ, i64_w, i32_w]
            rfl
          refine pure_ (i := 4) (N := some 19) (v := ?_) (a' := ?_) #[true, true, true, true, true, false, false, false, false, false, false, false, false, false, false, false] rfl rfl (any_of HT_.out (by kernel_rfl)) (fun _ _ _ h => h) (Or.inl ⟨by rfl, ?_⟩) ?_ ?_
          rotate_left
          · intro w'
            go_simp
            with_reducible rfl
          rotate_left
          · simp only [Act.put, List.setIfInBounds_toArray, List.set_cons_zero, List.set_cons_succ, i64_w, i32_w]
            rfl
          refine pure_ (i := 5) (N := some 20) (v := undef) (a' := ?_) #[true, true, true, true, true, true, false, false, false, false, false, false, false, false, false, false] rfl rfl (any_of HT_.out (by kernel_rfl)) (fun _ _ _ h => h) (Or.inr ⟨by rfl, rfl⟩) ?_ ?_
          rotate_left
          · simp only [Act.put, List.setIfInBounds_toArray, List.set_cons_zero, List.set_cons_succ, i64_w, i32_w]
            rfl
          refine pure_ (i := 6) (N := some 21) (v := undef) (a' := ?_) #[true, true, true, true, true, true, true, false, false, false, false, false, false, false, false, false] rfl rfl (any_of HT_.out (by kernel_rfl)) (fun _ _ _ h => h) (Or.inr ⟨by rfl, rfl⟩) ?_ ?_
          rotate_left
          · simp only [Act.put, List.setIfInBounds_toArray, List.set_cons_zero, List.set_cons_succ, i64_w, i32_w]
            rfl
          refine pure_ (i := 7) (N := some 22) (v := undef) (a' := ?_) #[true, true, true, true, true, true, true, true, false, false, false, false, false, false, false, false] rfl rfl (any_of HT_.out (by kernel_rfl)) (fun _ _ _ h => h) (Or.inr ⟨by rfl, rfl⟩) ?_ ?_
          rotate_left
          · simp only [Act.put, List.setIfInBounds_toArray, List.set_cons_zero, List.set_cons_succ, i64_w, i32_w]
            rfl
          refine pure_ (i := 8) (N := some 23) (v := undef) (a' := ?_) #[true, true, true, true, true, true, true, true, true, false, false, false, false, false, false, false] rfl rfl (any_of HT_.out (by kernel_rfl)) (fun _ _ _ h => h) (Or.inr ⟨by rfl, rfl⟩) ?_ ?_
          rotate_left
          · simp only [Act.put, List.setIfInBounds_toArray, List.set_cons_zero, List.set_cons_succ, i64_w, i32_w]
            rfl
          refine pure_ (i := 9) (N := some 24) (v := undef) (a' := ?_) #[true, true, true, true, true, true, true, true, true, true, false, false, false, false, false, false] rfl rfl (any_of HT_.out (by kernel_rfl)) (fun _ _ _ h => h) (Or.inr ⟨by rfl, rfl⟩) ?_ ?_
          rotate_left
          · simp only [Act.put, List.setIfInBounds_toArray, List.set_cons_zero, List.set_cons_succ, i64_w, i32_w]
            rfl
          refine pure_ (i := 10) (N := some 25) (v := undef) (a' := ?_) #[true, true, true, true, true, true, true, true, true, true, true, false, false, false, false, false] rfl rfl (any_of HT_.out (by kernel_rfl)) (fun _ _ _ h => h) (Or.inr ⟨by rfl, rfl⟩) ?_ ?_
          rotate_left
          · simp only [Act.put, List.setIfInBounds_toArray, List.set_cons_zero, List.set_cons_succ, i64_w, i32_w]
            rfl
          refine pure_ (i := 11) (N := some 26) (v := undef) (a' := ?_) #[true, true, true, true, true, true, true, true, true, true, true, true, false, false, false, false] rfl rfl (any_of HT_.out (by kernel_rfl)) (fun _ _ _ h => h) (Or.inr ⟨by rfl, rfl⟩) ?_ ?_
          rotate_left
          · simp only [Act.put, List.setIfInBounds_toArray, List.set_cons_zero, List.set_cons_succ, i64_w, i32_w]
            rfl
          refine pure_ (i := 12) (N := some 27) (v := undef) (a' := ?_) #[true, true, true, true, true, true, true, true, true, true, true, true, true, false, false, false] rfl rfl (any_of HT_.out (by kernel_rfl)) (fun _ _ _ h => h) (Or.inr ⟨by rfl, rfl⟩) ?_ ?_
          rotate_left
          · simp only [Act.put, List.setIfInBounds_toArray, List.set_cons_zero, List.set_cons_succ, i64_w, i32_w]
            rfl
          refine pure_ (i := 13) (N := some 28) (v := undef) (a' := ?_) #[true, true, true, true, true, true, true, true, true, true, true, true, true, true, false, false] rfl rfl (any_of HT_.out (by kernel_rfl)) (fun _ _ _ h => h) (Or.inr ⟨by rfl, rfl⟩) ?_ ?_
          rotate_left
          · simp only [Act.put, List.setIfInBounds_toArray, List.set_cons_zero, List.set_cons_succ, i64_w, i32_w]
            rfl
          refine pure_ (i := 14) (N := some 29) (v := ?_) (a' := ?_) #[true, true, true, true, true, true, true, true, true, true, true, true, true, true, true, false] rfl rfl (any_of HT_.out (by kernel_rfl)) (fun _ _ _ h => h) (Or.inl ⟨by rfl, ?_⟩) ?_ ?_
          rotate_left
          · intro w'
            go_simp
            with_reducible rfl
          rotate_left
          · simp only [Act.put, List.setIfInBounds_toArray, List.set_cons_zero, List.set_cons_succ, i64_w, i32_w]
            rfl
          refine pure_ (i := 15) (N := some 6) (v := ?_) (a' := ?_) #[true, true, true, true, true, true, true, true, true, true, true, true, true, true, true, true] rfl rfl (any_of HT_.out (by kernel_rfl)) (fun _ _ _ h => h) (Or.inl ⟨by rfl, ?_⟩) ?_ ?_
          rotate_left
          · intro w'
            go_simp
            with_reducible rfl
          rotate_left
          · simp only [Act.put, List.setIfInBounds_toArray, List.set_cons_zero, List.set_cons_succ, i64_w, i32_w]
            rfl
          refine done_ (done_of HT_.out (by kernel_rfl)) ?_
          try go_wp2
          go_ret
          exact ⟨by first | rfl | (simp [errW_none, errW_some] <;> rfl) | (simp [*, errW_none, errW_some] <;> rfl) | (simp [bneNil]; done), by repeat (first | (with_reducible first | exact HB.out | apply below_alloc | apply pw_below_drewN | apply below_drew1 | refine below_set ?_ GE344.out | refine below_set ?_ GE345.out) | exact HB.out)⟩

end Go.Proofs.YtllkoadcpobdaaaDoor.PX
