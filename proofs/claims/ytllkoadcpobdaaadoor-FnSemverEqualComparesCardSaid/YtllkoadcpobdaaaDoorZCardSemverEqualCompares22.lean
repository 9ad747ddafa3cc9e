/- The row and the tied card of FnSemverEqualCompares, out of its printed walk and its plain law. For every input that the statement lets in. -/
import Derived.Test.YtllkoadcpobdaaaDoorZCardSemverEqualCompares17
import Derived.Test.YtllkoadcpobdaaaDoorZCardSemverEqualCompares19
import Derived.Test.YtllkoadcpobdaaaDoorZCardSemverEqualCompares20
import Derived.Test.YtllkoadcpobdaaaDoorZCardSemverEqualCompares21
import Derived.RegionTactic
import Derived.Deep.RegionWith
namespace Go.Proofs.YtllkoadcpobdaaaDoor.Base
open Go.RowKit Go.Lib Go.Sort Go.Proofs
theorem At.five {w : World} {b : Nat} {x0 x1 x2 x3 x4 : Value} (h : At w b [x0, x1, x2, x3, x4]) : w.cell? ⟨b, 0, none⟩ = some x0 ∧ w.cell? ⟨b, 1, none⟩ = some x1 ∧ w.cell? ⟨b, 2, none⟩ = some x2 ∧ w.cell? ⟨b, 3, none⟩ = some x3 ∧ w.cell? ⟨b, 4, none⟩ = some x4 :=
  ⟨h.cell 0 _ rfl, h.cell 1 _ rfl, h.cell 2 _ rfl, h.cell 3 _ rfl, h.cell 4 _ rfl⟩
end Go.Proofs.YtllkoadcpobdaaaDoor.Base
namespace Go.Proofs.YtllkoadcpobdaaaDoor.KX

open Go.RowKit Go.Lib Go.Sort Go.Proofs Go.Proofs.YtllkoadcpobdaaaDoor Go.Proofs.YtllkoadcpobdaaaDoor.Base Go.Proofs.YtllkoadcpobdaaaDoor.L Go.Proofs.YtllkoadcpobdaaaDoor.Bt Go.Proofs.YtllkoadcpobdaaaDoor.Parse Go.Proofs.YtllkoadcpobdaaaDoor.PX

open Go.Proofs.YtllkoadcpobdaaaDoorW.PrintWords Go.Proofs.YtllkoadcpobdaaaDoorW.PrintLast Go.Proofs.YtllkoadcpobdaaaDoorW.PrintMore

/-- The cells of a constraint. -/
def ccells (g : Nat) (os : ByteArray) (mD d pD : Bool) : List Value := [.pointer (some ⟨g, 0, none⟩), .string ⟨#[]⟩, .string os, .bool mD, .bool d, .bool pD]

set_option maxHeartbeats 2000000 in
theorem inner (os : ByteArray) (g : Nat) (d mD pD : Bool) (w : World) :
    Calls Tryd.prog 81 #[.agg #[.string os, .pointer (some ⟨g, 0, none⟩), .bool d, .bool mD, .bool pD]] w (NewAt w (ccells g os mD d pD)) := by
  go_enter Tryd.func81, Tryd.ntmps81
  go_wp2
  go_ret
  exact ⟨w.heap.size + 1, rfl, At.new _ _ _ _ (by simp), by omega, by go_grown⟩

/-- The cells of a version that is told as a whole. -/
def vc (v : Ver) : List Value := vcells v.ma v.mi v.pa v.pre v.mt v.og

theorem verAt {w : World} {b : Nat} {v : Ver} (h : At w b (vc v)) : VerAt w b v := ⟨h.cell 0 _ rfl, h.cell 1 _ rfl, h.cell 2 _ rfl, h.cell 3 _ rfl, h.cell 4 _ rfl, h.cell 5 _ rfl⟩

def lessB (v n : Ver) : Bool := decide (verC v n < 0)

theorem kLT (v n : Ver) (bv bn : Nat) (sp : v.pre.size ≤ 1000000000) (sq : n.pre.size ≤ 1000000000) : Hid (∀ (W : World), At W bv (vc v) → At W bn (vc n) → Std W →
    Calls Tryd.prog 61 #[.pointer (some ⟨bv, 0, none⟩), .pointer (some ⟨bn, 0, none⟩)] W fun e w' => e = .returned (.bool (lessB v n)) ∧ Below W.heap.size W w') :=
  Lib.hid fun W hv hn hs => cmpLessThan v n bv bn sp sq W (verAt hv) (verAt hn) hs

theorem kCM (v n : Ver) (bv bn : Nat) (sp : v.pre.size ≤ 1000000000) (sq : n.pre.size ≤ 1000000000) : Hid (∀ (W : World), At W bv (vc v) → At W bn (vc n) → Std W →
    Calls Tryd.prog 86 #[.pointer (some ⟨bv, 0, none⟩), .pointer (some ⟨bn, 0, none⟩)] W fun e w' => e = .returned (.int .i64 (verC v n)) ∧ Below W.heap.size W w') :=
  Lib.hid fun W hv hn hs => compare v n bv bn sp sq W (verAt hv) (verAt hn) hs

theorem infoV : (Tryd.prog.info? 106).map (fun i => (i.zero, i.size, i.bytes)) = some (some (.agg #[.int .u64 0, .int .u64 0, .int .u64 0, .string ⟨#[]⟩, .string ⟨#[]⟩, .string ⟨#[]⟩]), 6, 72) := by kernel_rfl

theorem kEQ (v n : Ver) (bv bn : Nat) (sp : v.pre.size ≤ 1000000000) (sq : n.pre.size ≤ 1000000000) (hne : bv ≠ bn) : Hid (∀ (W : World), At W bv (vc v) → At W bn (vc n) → Std W →
    Calls Tryd.prog 66 #[.pointer (some ⟨bv, 0, none⟩), .pointer (some ⟨bn, 0, none⟩)] W fun e w' => e = .returned (.bool (verC v n == 0)) ∧ Below W.heap.size W w') :=
  Lib.hid fun W hv hn hs => by
    obtain ⟨i0, hi, _, hz1, _⟩ := info_parts infoV
    exact vEqual_calls _ _ _ _ _ _ _ _ _ _ _ _ bv bn (verC v n) W hv hn hs (kCM v n bv bn sp sq) (hv.ne_run hn hne Tryd.underlying65 hi (by rw [hz1]; decide))

end Go.Proofs.YtllkoadcpobdaaaDoor.KX
namespace Go.Proofs.YtllkoadcpobdaaaDoor.KX

open Go.RowKit Go.Lib Go.Sort Go.Proofs Go.Proofs.YtllkoadcpobdaaaDoor Go.Proofs.YtllkoadcpobdaaaDoor.Base Go.Proofs.YtllkoadcpobdaaaDoor.L Go.Proofs.YtllkoadcpobdaaaDoor.Bt Go.Proofs.YtllkoadcpobdaaaDoor.Parse Go.Proofs.YtllkoadcpobdaaaDoor.PX

/-- What constraintTilde answers. -/
def tildeB (v n : Ver) (mD d pD pre : Bool) : Bool := cTilde_r (v.pre.toList == []) (lessB v n) ((n.ma : Int) == 0) ((n.mi : Int) == 0) ((n.pa : Int) == 0) mD ((v.ma : Int) == (n.ma : Int)) ((v.mi : Int) == (n.mi : Int)) pD pre

theorem hTilde (v n : Ver) (os : ByteArray) (bv bc bn : Nat) (mD d pD pre : Bool) (sp : v.pre.size ≤ 1000000000) (sq : n.pre.size ≤ 1000000000) (_ : bv ≠ bn) (w : World) (hV : At w bv (vc v)) (hC : At w bc (ccells bn os mD d pD)) (hN : At w bn (vc n)) (hS : Std w) :
    Calls Tryd.prog 87 #[.pointer (some ⟨bv, 0, none⟩), .pointer (some ⟨bc, 0, none⟩), .bool pre] w (RetB w (tildeB v n mD d pD pre)) :=
  cTilde_calls _ _ _ _ _ _ _ _ _ _ _ _ _ _ bv bc bn mD d pD pre (lessB v n) w hV hC hN hS (kLT v n bv bn sp sq)

end Go.Proofs.YtllkoadcpobdaaaDoor.KX
namespace Go.Proofs.YtllkoadcpobdaaaDoor.KX

open Go.RowKit Go.Lib Go.Sort Go.Proofs Go.Proofs.YtllkoadcpobdaaaDoor Go.Proofs.YtllkoadcpobdaaaDoor.Base Go.Proofs.YtllkoadcpobdaaaDoor.L Go.Proofs.YtllkoadcpobdaaaDoor.Bt Go.Proofs.YtllkoadcpobdaaaDoor.Parse Go.Proofs.YtllkoadcpobdaaaDoor.PX

/-- What constraintTildeOrEqual answers. -/
def equalB (v n : Ver) (mD d pD pre : Bool) : Bool := cEqual_r (v.pre.toList == []) d (tildeB v n mD d pD pre) (verC v n == 0) pre

theorem hEqual (v n : Ver) (os : ByteArray) (bv bc bn : Nat) (mD d pD pre : Bool) (sp : v.pre.size ≤ 1000000000) (sq : n.pre.size ≤ 1000000000) (hne : bv ≠ bn) (w : World) (hV : At w bv (vc v)) (hC : At w bc (ccells bn os mD d pD)) (hN : At w bn (vc n)) (hS : Std w) :
    Calls Tryd.prog 89 #[.pointer (some ⟨bv, 0, none⟩), .pointer (some ⟨bc, 0, none⟩), .bool pre] w (RetB w (equalB v n mD d pD pre)) :=
  cEqual_calls _ _ _ _ _ _ _ _ _ _ _ _ _ _ bv bc bn mD d pD pre (verC v n == 0) (tildeB v n mD d pD pre) w hV hC hN hS (kEQ v n bv bn sp sq hne) (Lib.hid fun W hv hc hn hs => hTilde v n os bv bc bn mD d pD pre sp sq hne W hv hc hn hs)

end Go.Proofs.YtllkoadcpobdaaaDoor.KX
namespace Go.Proofs.YtllkoadcpobdaaaDoor.KX

open Go.RowKit Go.Lib Go.Sort Go.Proofs Go.Proofs.YtllkoadcpobdaaaDoor Go.Proofs.YtllkoadcpobdaaaDoor.Base Go.Proofs.YtllkoadcpobdaaaDoor.L Go.Proofs.YtllkoadcpobdaaaDoor.Bt Go.Proofs.YtllkoadcpobdaaaDoor.Parse Go.Proofs.YtllkoadcpobdaaaDoor.PX

open Go.Proofs.YtllkoadcpobdaaaDoorW.PrintWords Go.Proofs.YtllkoadcpobdaaaDoorW.PrintLast Go.Proofs.YtllkoadcpobdaaaDoorW.PrintMore

attribute [local go_sem] setCell_drewN alloc_drewN

set_option maxHeartbeats 4000000 in
set_option maxRecDepth 100000 in
theorem zzEqualHolds (v n : Ver) (os : ByteArray) (bv bn : Nat) (d mD pD pre : Bool) (sp : v.pre.size ≤ 1000000000) (sq : n.pre.size ≤ 1000000000) (hne : bv ≠ bn) (w : World) (hV : At w bv (vc v)) (hN : At w bn (vc n)) (hS : Std w) :
    Calls Tryd.prog 65 #[.agg #[.string os, .pointer (some ⟨bn, 0, none⟩), .bool d, .bool mD, .bool pD], .pointer (some ⟨bv, 0, none⟩), .bool pre] w (RetB w (equalB v n mD d pD pre)) := by
  have C1 := Lib.hid (fun W => inner os bn d mD pD W)
  have C2 := Lib.hid (fun W bc hv hc hn hs => hEqual v n os bv bc bn mD d pD pre sp sq hne W hv hc hn hs)
  have HV := Aside0.mk hV; have HN := Aside0.mk hN; have HS := Aside0.mk hS
  clear hV hN hS sp sq hne 
  go_enter Tryd.func65, Tryd.ntmps65
  go_wp2_with fail
  refine (C1.out _).mono ?_
  rintro e w1 ⟨bc, rfl, hc, hl, hb⟩
  have hb' := (show Below w.heap.size w _ by go_grown).trans (hb.mono (by simp))
  have HB := Aside0.mk hb'; have HV1 := Aside0.mk (HV.out.below hb'); have HN1 := Aside0.mk (HN.out.below hb'); have HS1 := Aside0.mk (HS.out.below hb'); have HC := Aside0.mk hc
  clear hb hb' hc hl HV HN HS
  go_wp2_with fail
  refine (C2.out _ _ HV1.out HC.out HN1.out HS1.out).mono ?_
  rintro e w2 ⟨er, rfl, hb2⟩
  go_wp2_with fail
  go_ret2
  exact ⟨_, rfl, HB.out.trans (hb2.mono HB.out.size)⟩

set_option maxHeartbeats 8000000 in
set_option maxRecDepth 100000 in
theorem implEqualHolds (op gv : Int) (a b c : Nat) (p : ByteArray) (x0 x1 x2 : Nat) (xp xm : ByteArray) (pre : Bool) (os : ByteArray) (hos : impl_operator.f op = some os) (hg : 0 ≤ gv) (sp : xp.size ≤ 1000000000) (sq : p.size ≤ 1000000000) (w : World) (hS : Std w) :
    Calls Tryd.prog 32 #[.agg #[.int .i64 op, .int .i64 gv, .int .u64 (a : Int), .int .u64 (b : Int), .int .u64 (c : Int), .string p], .agg #[.int .u64 (x0 : Int), .int .u64 (x1 : Int), .int .u64 (x2 : Int), .string xp, .string xm], .bool pre] w
      (Ret1 w (equalB ⟨x0, x1, x2, xp, xm, ⟨#[]⟩⟩ ⟨a, b, c, p, ⟨#[]⟩, ⟨#[]⟩⟩ (gv == 1) (decide (gv < 3)) (gv == 2) pre)) := by
  have C1 := Lib.hid (fun W => implTerm op gv a b c p os hos hg W)
  have C2 := Lib.hid (fun W => implVersion x0 x1 x2 xp xm W)
  have C3 := Lib.hid (fun W bv bn hne hv hn hs => zzEqualHolds ⟨x0, x1, x2, xp, xm, ⟨#[]⟩⟩ ⟨a, b, c, p, ⟨#[]⟩, ⟨#[]⟩⟩ os bv bn (decide (gv < 3)) (gv == 1) (gv == 2) pre sp sq hne W hv hn hs)
  have HS := Aside0.mk hS
  clear hS sp sq hos hg 
  generalize hR : equalB ⟨x0, x1, x2, xp, xm, ⟨#[]⟩⟩ ⟨a, b, c, p, ⟨#[]⟩, ⟨#[]⟩⟩ (gv == 1) (decide (gv < 3)) (gv == 2) pre = R at *
  generalize decide (gv < 3) = D at *
  generalize (gv == 1) = D1 at *
  generalize (gv == 2) = D2 at *
  clear hR
  go_enter Tryd.func32, Tryd.ntmps32
  go_wp2_with fail
  generalize hW0 : World.alloc (World.alloc w _) _ = w0
  have t0 : At w0 w.heap.size [.int .i64 op, .int .i64 gv, .int .u64 (a : Int), .int .u64 (b : Int), .int .u64 (c : Int), .string p] := by
    rw [← hW0]
    exact (At.new _ _ _ _ rfl).below ((Below.refl _ _).alloc (Nat.le_refl _) _)
  have v0 : At w0 (w.heap.size + 1) [.int .u64 (x0 : Int), .int .u64 (x1 : Int), .int .u64 (x2 : Int), .string xp, .string xm] := by
    rw [← hW0]
    exact At.new _ _ _ _ (by simp)
  have b0 : Below w.heap.size w w0 := by
    rw [← hW0]
    go_grown
  have HT0 := Aside0.mk t0; have HV0 := Aside0.mk v0; have HB0 := Aside0.mk b0
  clear t0 v0 b0 hW0
  go_region_held3 (fun W' => (W'.cell? ⟨w.heap.size, 0, none⟩ = some (.int .i64 op) ∧ W'.cell? ⟨w.heap.size, 1, none⟩ = some (.int .i64 gv) ∧ W'.cell? ⟨w.heap.size, 2, none⟩ = some (.int .u64 (a : Int)) ∧ W'.cell? ⟨w.heap.size, 3, none⟩ = some (.int .u64 (b : Int)) ∧ W'.cell? ⟨w.heap.size, 4, none⟩ = some (.int .u64 (c : Int)) ∧ W'.cell? ⟨w.heap.size, 5, none⟩ = some (.string p)) ∧
      W'.cell? ⟨w.heap.size + 1, 0, none⟩ = some (.int .u64 (x0 : Int)) ∧ W'.cell? ⟨w.heap.size + 1, 1, none⟩ = some (.int .u64 (x1 : Int)) ∧ W'.cell? ⟨w.heap.size + 1, 2, none⟩ = some (.int .u64 (x2 : Int)) ∧ W'.cell? ⟨w.heap.size + 1, 3, none⟩ = some (.string xp) ∧ W'.cell? ⟨w.heap.size + 1, 4, none⟩ = some (.string xm))
    (first | (with_reducible exact ⟨HT0.out.drew.six, HV0.out.drew.five⟩) | (with_reducible exact ⟨HT3.out.six, HV3.out.five⟩) | (with_reducible exact ⟨HT2.out.six, HV2.out.five⟩) | (with_reducible exact ⟨HT1.out.six, HV1.out.five⟩)) (first
    | (go_at_call 54; (with_reducible refine (C1.out _).mono ?_); rintro e w1 ⟨g1, rfl, hn1, hl1, hb⟩; have hb1 := undrew hb; have HN1 := Aside0.mk hn1; have HT1 := Aside0.mk (HT0.out.below hb1); have HV1 := Aside0.mk (HV0.out.below hb1); have HB1 := Aside0.mk (HB0.out.trans (hb1.mono HB0.out.size)); have HS1 := Aside0.mk (HS.out.below HB1.out); clear hb hb1 hn1 hl1)
    | (go_at_call 55; (with_reducible refine (C2.out _).mono ?_); rintro e w2 ⟨g2, rfl, hv2, hl2, hb2⟩; have HL2 := Aside0.mk hl2; have HU2 := Aside0.mk hv2; have HN2 := Aside0.mk (HN1.out.below hb2); have HT2 := Aside0.mk (HT1.out.below hb2); have HV2 := Aside0.mk (HV1.out.below hb2); have HB2 := Aside0.mk (HB1.out.trans (hb2.mono HB1.out.size)); have HS2 := Aside0.mk (HS1.out.below hb2); clear hb2 hv2 hl2)
    | (go_at_call 65; refine (C3.out _ _ _ (by have := HN1.out.lt; have := HL2.out; omega) HU2.out HN2.out HS2.out).mono ?_; rintro e w3 ⟨er, rfl, hb3⟩; have HT3 := Aside0.mk (HT2.out.below hb3); have HV3 := Aside0.mk (HV2.out.below hb3); have HB3 := Aside0.mk (HB2.out.trans (hb3.mono HB2.out.size)); clear hb3))
  go_wp2_with fail
  go_ret
  exact ⟨rfl, HB3.out⟩

end Go.Proofs.YtllkoadcpobdaaaDoor.KX
namespace Go.Proofs.YtllkoadcpobdaaaDoor.PX

open Go Go.Proofs Go.RowKit Go.Lib Go.Proofs.YtllkoadcpobdaaaDoor Go.Proofs.YtllkoadcpobdaaaDoor.L Go.Proofs.YtllkoadcpobdaaaDoor.Bt Go.Proofs.YtllkoadcpobdaaaDoor.KX

def impl_EqualHolds.f (t0 t1 a b c : Int) (p : ByteArray) (x0 x1 x2 : Int) (xp xm : ByteArray) (pre : Bool) : Option Bool :=
  if 0 ≤ t1 ∧ okV a b c p ∧ okV x0 x1 x2 xp then some (equalB (vOf x0 x1 x2 xp xm) (vOf a b c p ⟨#[]⟩) (t1 == 1) (decide (t1 < 3)) (t1 == 2) pre) else none

theorem op_some (t0 : Int) : ∃ os, impl_operator.f t0 = some os := by
  unfold impl_operator.f
  repeat' first
    | exact ⟨_, rfl⟩
    | split

theorem impl_EqualHolds.calls (t0 t1 a b c : Int) (p : ByteArray) (x0 x1 x2 : Int) (xp xm : ByteArray) (pre : Bool) (r : Bool) (w : World) (hStd : Std w) (h : impl_EqualHolds.f t0 t1 a b c p x0 x1 x2 xp xm pre = some r) :
    Calls Tryd.prog 32 #[.agg #[.int .i64 t0, .int .i64 t1, .int .u64 a, .int .u64 b, .int .u64 c, .string p], .agg #[.int .u64 x0, .int .u64 x1, .int .u64 x2, .string xp, .string xm], .bool pre] w fun e w' => e = .returned (.bool r) ∧ Below w.heap.size w w' := by
  unfold impl_EqualHolds.f at h
  by_cases hc : 0 ≤ t1 ∧ okV a b c p ∧ okV x0 x1 x2 xp
  · rw [if_pos hc] at h
    cases h
    obtain ⟨h1, ⟨y0, y1, y2, y3⟩, ⟨z0, z1, z2, z3⟩⟩ := hc
    obtain ⟨a, rfl⟩ := Int.eq_ofNat_of_zero_le y0
    obtain ⟨b, rfl⟩ := Int.eq_ofNat_of_zero_le y1
    obtain ⟨c, rfl⟩ := Int.eq_ofNat_of_zero_le y2
    obtain ⟨x0, rfl⟩ := Int.eq_ofNat_of_zero_le z0
    obtain ⟨x1, rfl⟩ := Int.eq_ofNat_of_zero_le z1
    obtain ⟨x2, rfl⟩ := Int.eq_ofNat_of_zero_le z2
    obtain ⟨os, hos⟩ := op_some t0
    exact implEqualHolds t0 t1 a b c p x0 x1 x2 xp xm pre os hos h1 z3 y3 w hStd
  · rw [if_neg hc] at h
    cases h

end Go.Proofs.YtllkoadcpobdaaaDoor.PX
namespace Go.Proofs.YtllkoadcpobdaaaDoor.KX

open Go.RowKit Go.Lib Go.Sort Go.Proofs Go.Proofs.YtllkoadcpobdaaaDoor Go.Proofs.YtllkoadcpobdaaaDoor.Base Go.Proofs.YtllkoadcpobdaaaDoor.L Go.Proofs.YtllkoadcpobdaaaDoor.Bt Go.Proofs.YtllkoadcpobdaaaDoor.Parse Go.Proofs.YtllkoadcpobdaaaDoor.PX

/-- What constraintNotEqual answers. -/
def notEqualB (v n : Ver) (mD d pD pre : Bool) : Bool := cNotEqual_r (v.pre.toList == []) d ((n.ma : Int) == (v.ma : Int)) ((n.mi : Int) == (v.mi : Int)) mD ((n.pa : Int) == (v.pa : Int)) pD (n.pre.toList == []) (preC (bl v.pre) (bl n.pre) == 0) (verC v n == 0) pre

theorem hNotEqual (v n : Ver) (os : ByteArray) (bv bc bn : Nat) (mD d pD pre : Bool) (sp : v.pre.size ≤ 1000000000) (sq : n.pre.size ≤ 1000000000) (hne : bv ≠ bn) (w : World) (hV : At w bv (vc v)) (hC : At w bc (ccells bn os mD d pD)) (hN : At w bn (vc n)) (hS : Std w) :
    Calls Tryd.prog 88 #[.pointer (some ⟨bv, 0, none⟩), .pointer (some ⟨bc, 0, none⟩), .bool pre] w (RetB w (notEqualB v n mD d pD pre)) :=
  cNotEqual_calls _ _ _ _ _ _ _ _ _ _ _ _ _ _ bv bc bn mD d pD pre (verC v n == 0) (preC (bl v.pre) (bl n.pre)) w hV hC hN hS (kEQ v n bv bn sp sq hne) (Lib.hid fun W hs => comparePre v.pre n.pre sp sq W hs)

end Go.Proofs.YtllkoadcpobdaaaDoor.KX
namespace Go.Proofs.YtllkoadcpobdaaaDoor.KX

open Go.RowKit Go.Lib Go.Sort Go.Proofs Go.Proofs.YtllkoadcpobdaaaDoor Go.Proofs.YtllkoadcpobdaaaDoor.Base Go.Proofs.YtllkoadcpobdaaaDoor.L Go.Proofs.YtllkoadcpobdaaaDoor.Bt Go.Proofs.YtllkoadcpobdaaaDoor.Parse Go.Proofs.YtllkoadcpobdaaaDoor.PX

open Go.Proofs.YtllkoadcpobdaaaDoorW.PrintWords Go.Proofs.YtllkoadcpobdaaaDoorW.PrintLast Go.Proofs.YtllkoadcpobdaaaDoorW.PrintMore

attribute [local go_sem] setCell_drewN alloc_drewN

set_option maxHeartbeats 4000000 in
set_option maxRecDepth 100000 in
theorem zzNotEqualHolds (v n : Ver) (os : ByteArray) (bv bn : Nat) (d mD pD pre : Bool) (sp : v.pre.size ≤ 1000000000) (sq : n.pre.size ≤ 1000000000) (hne : bv ≠ bn) (w : World) (hV : At w bv (vc v)) (hN : At w bn (vc n)) (hS : Std w) :
    Calls Tryd.prog 64 #[.agg #[.string os, .pointer (some ⟨bn, 0, none⟩), .bool d, .bool mD, .bool pD], .pointer (some ⟨bv, 0, none⟩), .bool pre] w (RetB w (notEqualB v n mD d pD pre)) := by
  have C1 := Lib.hid (fun W => inner os bn d mD pD W)
  have C2 := Lib.hid (fun W bc hv hc hn hs => hNotEqual v n os bv bc bn mD d pD pre sp sq hne W hv hc hn hs)
  have HV := Aside0.mk hV; have HN := Aside0.mk hN; have HS := Aside0.mk hS
  clear hV hN hS sp sq hne 
  go_enter Tryd.func64, Tryd.ntmps64
  go_wp2_with fail
  refine (C1.out _).mono ?_
  rintro e w1 ⟨bc, rfl, hc, hl, hb⟩
  have hb' := (show Below w.heap.size w _ by go_grown).trans (hb.mono (by simp))
  have HB := Aside0.mk hb'; have HV1 := Aside0.mk (HV.out.below hb'); have HN1 := Aside0.mk (HN.out.below hb'); have HS1 := Aside0.mk (HS.out.below hb'); have HC := Aside0.mk hc
  clear hb hb' hc hl HV HN HS
  go_wp2_with fail
  refine (C2.out _ _ HV1.out HC.out HN1.out HS1.out).mono ?_
  rintro e w2 ⟨er, rfl, hb2⟩
  go_wp2_with fail
  go_ret2
  exact ⟨_, rfl, HB.out.trans (hb2.mono HB.out.size)⟩

set_option maxHeartbeats 8000000 in
set_option maxRecDepth 100000 in
theorem implNotEqualHolds (op gv : Int) (a b c : Nat) (p : ByteArray) (x0 x1 x2 : Nat) (xp xm : ByteArray) (pre : Bool) (os : ByteArray) (hos : impl_operator.f op = some os) (hg : 0 ≤ gv) (sp : xp.size ≤ 1000000000) (sq : p.size ≤ 1000000000) (w : World) (hS : Std w) :
    Calls Tryd.prog 30 #[.agg #[.int .i64 op, .int .i64 gv, .int .u64 (a : Int), .int .u64 (b : Int), .int .u64 (c : Int), .string p], .agg #[.int .u64 (x0 : Int), .int .u64 (x1 : Int), .int .u64 (x2 : Int), .string xp, .string xm], .bool pre] w
      (Ret1 w (notEqualB ⟨x0, x1, x2, xp, xm, ⟨#[]⟩⟩ ⟨a, b, c, p, ⟨#[]⟩, ⟨#[]⟩⟩ (gv == 1) (decide (gv < 3)) (gv == 2) pre)) := by
  have C1 := Lib.hid (fun W => implTerm op gv a b c p os hos hg W)
  have C2 := Lib.hid (fun W => implVersion x0 x1 x2 xp xm W)
  have C3 := Lib.hid (fun W bv bn hne hv hn hs => zzNotEqualHolds ⟨x0, x1, x2, xp, xm, ⟨#[]⟩⟩ ⟨a, b, c, p, ⟨#[]⟩, ⟨#[]⟩⟩ os bv bn (decide (gv < 3)) (gv == 1) (gv == 2) pre sp sq hne W hv hn hs)
  have HS := Aside0.mk hS
  clear hS sp sq hos hg 
  generalize hR : notEqualB ⟨x0, x1, x2, xp, xm, ⟨#[]⟩⟩ ⟨a, b, c, p, ⟨#[]⟩, ⟨#[]⟩⟩ (gv == 1) (decide (gv < 3)) (gv == 2) pre = R at *
  generalize decide (gv < 3) = D at *
  generalize (gv == 1) = D1 at *
  generalize (gv == 2) = D2 at *
  clear hR
  go_enter Tryd.func30, Tryd.ntmps30
  go_wp2_with fail
  generalize hW0 : World.alloc (World.alloc w _) _ = w0
  have t0 : At w0 w.heap.size [.int .i64 op, .int .i64 gv, .int .u64 (a : Int), .int .u64 (b : Int), .int .u64 (c : Int), .string p] := by
    rw [← hW0]
    exact (At.new _ _ _ _ rfl).below ((Below.refl _ _).alloc (Nat.le_refl _) _)
  have v0 : At w0 (w.heap.size + 1) [.int .u64 (x0 : Int), .int .u64 (x1 : Int), .int .u64 (x2 : Int), .string xp, .string xm] := by
    rw [← hW0]
    exact At.new _ _ _ _ (by simp)
  have b0 : Below w.heap.size w w0 := by
    rw [← hW0]
    go_grown
  have HT0 := Aside0.mk t0; have HV0 := Aside0.mk v0; have HB0 := Aside0.mk b0
  clear t0 v0 b0 hW0
  go_region_held3 (fun W' => (W'.cell? ⟨w.heap.size, 0, none⟩ = some (.int .i64 op) ∧ W'.cell? ⟨w.heap.size, 1, none⟩ = some (.int .i64 gv) ∧ W'.cell? ⟨w.heap.size, 2, none⟩ = some (.int .u64 (a : Int)) ∧ W'.cell? ⟨w.heap.size, 3, none⟩ = some (.int .u64 (b : Int)) ∧ W'.cell? ⟨w.heap.size, 4, none⟩ = some (.int .u64 (c : Int)) ∧ W'.cell? ⟨w.heap.size, 5, none⟩ = some (.string p)) ∧
      W'.cell? ⟨w.heap.size + 1, 0, none⟩ = some (.int .u64 (x0 : Int)) ∧ W'.cell? ⟨w.heap.size + 1, 1, none⟩ = some (.int .u64 (x1 : Int)) ∧ W'.cell? ⟨w.heap.size + 1, 2, none⟩ = some (.int .u64 (x2 : Int)) ∧ W'.cell? ⟨w.heap.size + 1, 3, none⟩ = some (.string xp) ∧ W'.cell? ⟨w.heap.size + 1, 4, none⟩ = some (.string xm))
    (first | (with_reducible exact ⟨HT0.out.drew.six, HV0.out.drew.five⟩) | (with_reducible exact ⟨HT3.out.six, HV3.out.five⟩) | (with_reducible exact ⟨HT2.out.six, HV2.out.five⟩) | (with_reducible exact ⟨HT1.out.six, HV1.out.five⟩)) (first
    | (go_at_call 54; (with_reducible refine (C1.out _).mono ?_); rintro e w1 ⟨g1, rfl, hn1, hl1, hb⟩; have hb1 := undrew hb; have HN1 := Aside0.mk hn1; have HT1 := Aside0.mk (HT0.out.below hb1); have HV1 := Aside0.mk (HV0.out.below hb1); have HB1 := Aside0.mk (HB0.out.trans (hb1.mono HB0.out.size)); have HS1 := Aside0.mk (HS.out.below HB1.out); clear hb hb1 hn1 hl1)
    | (go_at_call 55; (with_reducible refine (C2.out _).mono ?_); rintro e w2 ⟨g2, rfl, hv2, hl2, hb2⟩; have HL2 := Aside0.mk hl2; have HU2 := Aside0.mk hv2; have HN2 := Aside0.mk (HN1.out.below hb2); have HT2 := Aside0.mk (HT1.out.below hb2); have HV2 := Aside0.mk (HV1.out.below hb2); have HB2 := Aside0.mk (HB1.out.trans (hb2.mono HB1.out.size)); have HS2 := Aside0.mk (HS1.out.below hb2); clear hb2 hv2 hl2)
    | (go_at_call 64; refine (C3.out _ _ _ (by have := HN1.out.lt; have := HL2.out; omega) HU2.out HN2.out HS2.out).mono ?_; rintro e w3 ⟨er, rfl, hb3⟩; have HT3 := Aside0.mk (HT2.out.below hb3); have HV3 := Aside0.mk (HV2.out.below hb3); have HB3 := Aside0.mk (HB2.out.trans (hb3.mono HB2.out.size)); clear hb3))
  go_wp2_with fail
  go_ret
  exact ⟨rfl, HB3.out⟩

end Go.Proofs.YtllkoadcpobdaaaDoor.KX
namespace Go.Proofs.YtllkoadcpobdaaaDoor.PX

open Go Go.Proofs Go.RowKit Go.Lib Go.Proofs.YtllkoadcpobdaaaDoor Go.Proofs.YtllkoadcpobdaaaDoor.L Go.Proofs.YtllkoadcpobdaaaDoor.Bt Go.Proofs.YtllkoadcpobdaaaDoor.KX

def impl_NotEqualHolds.f (t0 t1 a b c : Int) (p : ByteArray) (x0 x1 x2 : Int) (xp xm : ByteArray) (pre : Bool) : Option Bool :=
  if 0 ≤ t1 ∧ okV a b c p ∧ okV x0 x1 x2 xp then some (notEqualB (vOf x0 x1 x2 xp xm) (vOf a b c p ⟨#[]⟩) (t1 == 1) (decide (t1 < 3)) (t1 == 2) pre) else none

theorem impl_NotEqualHolds.calls (t0 t1 a b c : Int) (p : ByteArray) (x0 x1 x2 : Int) (xp xm : ByteArray) (pre : Bool) (r : Bool) (w : World) (hStd : Std w) (h : impl_NotEqualHolds.f t0 t1 a b c p x0 x1 x2 xp xm pre = some r) :
    Calls Tryd.prog 30 #[.agg #[.int .i64 t0, .int .i64 t1, .int .u64 a, .int .u64 b, .int .u64 c, .string p], .agg #[.int .u64 x0, .int .u64 x1, .int .u64 x2, .string xp, .string xm], .bool pre] w fun e w' => e = .returned (.bool r) ∧ Below w.heap.size w w' := by
  unfold impl_NotEqualHolds.f at h
  by_cases hc : 0 ≤ t1 ∧ okV a b c p ∧ okV x0 x1 x2 xp
  · rw [if_pos hc] at h
    cases h
    obtain ⟨h1, ⟨y0, y1, y2, y3⟩, ⟨z0, z1, z2, z3⟩⟩ := hc
    obtain ⟨a, rfl⟩ := Int.eq_ofNat_of_zero_le y0
    obtain ⟨b, rfl⟩ := Int.eq_ofNat_of_zero_le y1
    obtain ⟨c, rfl⟩ := Int.eq_ofNat_of_zero_le y2
    obtain ⟨x0, rfl⟩ := Int.eq_ofNat_of_zero_le z0
    obtain ⟨x1, rfl⟩ := Int.eq_ofNat_of_zero_le z1
    obtain ⟨x2, rfl⟩ := Int.eq_ofNat_of_zero_le z2
    obtain ⟨os, hos⟩ := op_some t0
    exact implNotEqualHolds t0 t1 a b c p x0 x1 x2 xp xm pre os hos h1 z3 y3 w hStd
  · rw [if_neg hc] at h
    cases h

end Go.Proofs.YtllkoadcpobdaaaDoor.PX
namespace Go.Proofs.YtllkoadcpobdaaaDoor.KX

open Go.RowKit Go.Lib Go.Proofs Go.Sort Go.Proofs.YtllkoadcpobdaaaDoor Go.Proofs.YtllkoadcpobdaaaDoor.Base Go.Proofs.YtllkoadcpobdaaaDoor.L Go.Proofs.YtllkoadcpobdaaaDoor.Bt Go.Proofs.YtllkoadcpobdaaaDoor.Parse Go.Proofs.YtllkoadcpobdaaaDoor.PX

open Go.Proofs.YtllkoadcpobdaaaDoorW.PrintWords Go.Proofs.YtllkoadcpobdaaaDoorW.PrintLast Go.Proofs.YtllkoadcpobdaaaDoorW.PrintMore

attribute [local go_sem] setCell_drewN alloc_drewN

set_option maxHeartbeats 2000000 in
set_option maxRecDepth 100000 in
theorem implEqual (a0 a1 a2 b0 b1 b2 : Nat) (ap am bp bm : ByteArray) (sp : ap.size ≤ 1000000000) (sq : bp.size ≤ 1000000000) (w : World) (hw : Std w) :
    Calls Tryd.prog 33 #[.agg #[.int .u64 (a0 : Int), .int .u64 (a1 : Int), .int .u64 (a2 : Int), .string ap, .string am], .agg #[.int .u64 (b0 : Int), .int .u64 (b1 : Int), .int .u64 (b2 : Int), .string bp, .string bm]] w
      fun e w' => e = .returned (.bool (verC ⟨a0, a1, a2, ap, am, ⟨#[]⟩⟩ ⟨b0, b1, b2, bp, bm, ⟨#[]⟩⟩ == 0)) ∧ Below w.heap.size w w' := by
  have C1 := Lib.hid (fun W => implVersion a0 a1 a2 ap am W)
  have C2 := Lib.hid (fun W => implVersion b0 b1 b2 bp bm W)
  have C3 := Lib.hid (fun (W : World) g h hne hv ho hw => (kEQ ⟨a0, a1, a2, ap, am, ⟨#[]⟩⟩ ⟨b0, b1, b2, bp, bm, ⟨#[]⟩⟩ g h sp sq hne).out W hv ho hw)
  have HW := Aside0.mk hw
  clear hw
  go_enter Tryd.func33, Tryd.ntmps33
  go_wp2_with fail
  go_region_with (first
    | (go_at_call 55; (with_reducible refine (C1.out _).mono ?_); rintro e w1 ⟨g1, rfl, hv1, hl1, hb1⟩; obtain ⟨hc1, hf1⟩ := bcell hb1; have hz1 := hb1.size; simp at hz1; have HB1 := Aside0.mk ((show Below w.heap.size w _ by go_grown).trans (hb1.mono (by simp; omega))))
    | (go_at_call 55; (with_reducible refine (C2.out _).mono ?_); rintro e w2 ⟨g2, rfl, hv2, hl2, hb2⟩; have HB2 := Aside0.mk (HB1.out.trans (hb2.mono HB1.out.size)); have HW2 := Aside0.mk (HW.out.below HB2.out); have hne := (show g1 ≠ g2 by have := hv1.lt; omega); have hv1' := hv1.below hb2)
    | (go_at_call 66; refine (C3.out _ _ _ hne hv1' hv2 HW2.out).mono ?_; rintro e w3 ⟨rfl, hb3⟩))
  all_goals
    go_wp2_with fail
    go_ret
    exact ⟨rfl, HB2.out.trans (hb3.mono HB2.out.size)⟩

end Go.Proofs.YtllkoadcpobdaaaDoor.KX
namespace Go.Proofs.YtllkoadcpobdaaaDoor.PX

open Go Go.Proofs Go.RowKit Go.Lib Go.Proofs.YtllkoadcpobdaaaDoor Go.Proofs.YtllkoadcpobdaaaDoor.L Go.Proofs.YtllkoadcpobdaaaDoor.Bt Go.Proofs.YtllkoadcpobdaaaDoor.KX

def impl_VersionEqual.f (a0 a1 a2 : Int) (a3 a4 : ByteArray) (b0 b1 b2 : Int) (b3 b4 : ByteArray) : Option Bool :=
  if okV a0 a1 a2 a3 ∧ okV b0 b1 b2 b3 then some (verC (vOf a0 a1 a2 a3 a4) (vOf b0 b1 b2 b3 b4) == 0) else none

theorem impl_VersionEqual.calls (a0 a1 a2 : Int) (a3 a4 : ByteArray) (b0 b1 b2 : Int) (b3 b4 : ByteArray) (r : Bool) (w : World) (hStd : Std w) (h : impl_VersionEqual.f a0 a1 a2 a3 a4 b0 b1 b2 b3 b4 = some r) :
    Calls Tryd.prog 33 #[.agg #[.int .u64 a0, .int .u64 a1, .int .u64 a2, .string a3, .string a4], .agg #[.int .u64 b0, .int .u64 b1, .int .u64 b2, .string b3, .string b4]] w fun e w' => e = .returned (.bool r) ∧ Below w.heap.size w w' := by
  unfold impl_VersionEqual.f at h
  by_cases hc : okV a0 a1 a2 a3 ∧ okV b0 b1 b2 b3
  · rw [if_pos hc] at h
    cases h
    obtain ⟨⟨x0, x1, x2, x3⟩, ⟨y0, y1, y2, y3⟩⟩ := hc
    obtain ⟨a0, rfl⟩ := Int.eq_ofNat_of_zero_le x0
    obtain ⟨a1, rfl⟩ := Int.eq_ofNat_of_zero_le x1
    obtain ⟨a2, rfl⟩ := Int.eq_ofNat_of_zero_le x2
    obtain ⟨b0, rfl⟩ := Int.eq_ofNat_of_zero_le y0
    obtain ⟨b1, rfl⟩ := Int.eq_ofNat_of_zero_le y1
    obtain ⟨b2, rfl⟩ := Int.eq_ofNat_of_zero_le y2
    exact implEqual a0 a1 a2 b0 b1 b2 a3 a4 b3 b4 x3 y3 w hStd
  · rw [if_neg hc] at h
    cases h

end Go.Proofs.YtllkoadcpobdaaaDoor.PX
