/- The row and the tied card of FnSemverTildeInterval, out of its printed walk and its plain law. For every input that the statement lets in. -/
import Derived.Test.YtllkoadcpobdaaaDoorZCardSemverTildeInterval6
import Derived.Test.YtllkoadcpobdaaaDoorZCardSemverTildeInterval7
import Derived.Test.YtllkoadcpobdaaaDoorZCardSemverTildeInterval11
import Derived.Test.YtllkoadcpobdaaaDoorZCardSemverTildeInterval12
import Derived.Test.YtllkoadcpobdaaaDoorZCardSemverTildeInterval14
import Derived.Test.YtllkoadcpobdaaaDoorZCardSemverTildeInterval18
import Derived.Test.YtllkoadcpobdaaaDoorZCardSemverTildeInterval19
import Derived.Test.YtllkoadcpobdaaaDoorZCardSemverTildeInterval20
import Derived.BigQuiet
import Derived.Lib.QuietBelow
namespace Go.Proofs.YtllkoadcpobdaaaDoor.Base
end Go.Proofs.YtllkoadcpobdaaaDoor.Base
namespace Go.Proofs.YtllkoadcpobdaaaDoor.Bt
end Go.Proofs.YtllkoadcpobdaaaDoor.Bt
namespace Go.Proofs.YtllkoadcpobdaaaDoor.KX
end Go.Proofs.YtllkoadcpobdaaaDoor.KX
namespace Go.Proofs.YtllkoadcpobdaaaDoor.L
end Go.Proofs.YtllkoadcpobdaaaDoor.L
namespace Go.Proofs.YtllkoadcpobdaaaDoor.PX
end Go.Proofs.YtllkoadcpobdaaaDoor.PX
namespace Go.Proofs.YtllkoadcpobdaaaDoor.Parse
end Go.Proofs.YtllkoadcpobdaaaDoor.Parse
namespace Go.Proofs.YtllkoadcpobdaaaDoor.KX

open Go.RowKit Go.Lib Go.Sort Go.Proofs Go.Proofs.YtllkoadcpobdaaaDoor Go.Proofs.YtllkoadcpobdaaaDoor.Base Go.Proofs.YtllkoadcpobdaaaDoor.L Go.Proofs.YtllkoadcpobdaaaDoor.Bt Go.Proofs.YtllkoadcpobdaaaDoor.Parse Go.Proofs.YtllkoadcpobdaaaDoor.PX

open Go.Proofs.YtllkoadcpobdaaaDoorW.PrintWords Go.Proofs.YtllkoadcpobdaaaDoorW.PrintLast Go.Proofs.YtllkoadcpobdaaaDoorW.PrintMore

/-- The cells of a constraint. -/
def ccells (g : Nat) (og os : ByteArray) (mD d pD : Bool) : List Value := [.pointer (some ⟨g, 0, none⟩), .string og, .string os, .bool mD, .bool d, .bool pD]

set_option maxHeartbeats 2000000 in
theorem inner (os : ByteArray) (g : Nat) (d mD pD : Bool) (w : World) :
    Calls Tryd.prog 81 #[.agg #[.string os, .pointer (some ⟨g, 0, none⟩), .bool d, .bool mD, .bool pD]] w (NewAt w (ccells g ⟨#[]⟩ os mD d pD)) := by
  go_enter Tryd.func81, Tryd.ntmps81
  go_wp2
  go_ret
  exact ⟨w.heap.size + 1, rfl, At.new _ _ _ _ (by simp), by omega, by go_grown⟩

/-- The cells of a version that is told as a whole. -/
def vc (v : Ver) : List Value := vcells v.ma v.mi v.pa v.pre v.mt v.og

theorem verAt {w : World} {b : Nat} {v : Ver} (h : At w b (vc v)) : VerAt w b v := ⟨h.cell 0 _ rfl, h.cell 1 _ rfl, h.cell 2 _ rfl, h.cell 3 _ rfl, h.cell 4 _ rfl, h.cell 5 _ rfl⟩

def lessB (v n : Ver) : Bool := decide (verC v n < 0)

theorem kLT (v n : Ver) (bv bn : Nat) (sp : v.pre.size ≤ 2147483647) (sq : n.pre.size ≤ 2147483647) : Hid (∀ (W : World), At W bv (vc v) → At W bn (vc n) → Std W →
    Calls Tryd.prog 61 #[.pointer (some ⟨bv, 0, none⟩), .pointer (some ⟨bn, 0, none⟩)] W fun e w' => e = .returned (.bool (lessB v n)) ∧ Below W.heap.size W w') :=
  Lib.hid fun W hv hn hs => cmpLessThan v n bv bn sp sq W (verAt hv) (verAt hn) hs

end Go.Proofs.YtllkoadcpobdaaaDoor.KX
namespace Go.Proofs.YtllkoadcpobdaaaDoor.KX

open Go.RowKit Go.Lib Go.Sort Go.Proofs Go.Proofs.YtllkoadcpobdaaaDoor Go.Proofs.YtllkoadcpobdaaaDoor.Base Go.Proofs.YtllkoadcpobdaaaDoor.L Go.Proofs.YtllkoadcpobdaaaDoor.Bt Go.Proofs.YtllkoadcpobdaaaDoor.Parse Go.Proofs.YtllkoadcpobdaaaDoor.PX

/-- What constraintTilde answers. -/
def tildeB (v n : Ver) (mD d pD pre : Bool) : Bool := cTilde_r (v.pre.toList == []) (lessB v n) ((n.ma : Int) == 0) ((n.mi : Int) == 0) ((n.pa : Int) == 0) mD ((v.ma : Int) == (n.ma : Int)) ((v.mi : Int) == (n.mi : Int)) pD pre

theorem hTilde (v n : Ver) (og os : ByteArray) (bv bc bn : Nat) (mD d pD pre : Bool) (sp : v.pre.size ≤ 2147483647) (sq : n.pre.size ≤ 2147483647) (_ : bv ≠ bn) (w : World) (hV : At w bv (vc v)) (hC : At w bc (ccells bn og os mD d pD)) (hN : At w bn (vc n)) (hS : Std w) :
    Calls Tryd.prog 87 #[.pointer (some ⟨bv, 0, none⟩), .pointer (some ⟨bc, 0, none⟩), .bool pre] w (RetB w (tildeB v n mD d pD pre)) :=
  cTilde_calls _ _ _ _ _ _ _ _ _ _ _ _ _ _ bv bc bn mD d pD pre (lessB v n) w hV hC hN hS (kLT v n bv bn sp sq)

end Go.Proofs.YtllkoadcpobdaaaDoor.KX
namespace Go.Proofs.YtllkoadcpobdaaaDoor.KX

open Go.RowKit Go.Lib Go.Sort Go.Proofs Go.Proofs.YtllkoadcpobdaaaDoor Go.Proofs.YtllkoadcpobdaaaDoor.Base Go.Proofs.YtllkoadcpobdaaaDoor.L Go.Proofs.YtllkoadcpobdaaaDoor.Bt Go.Proofs.YtllkoadcpobdaaaDoor.Parse Go.Proofs.YtllkoadcpobdaaaDoor.PX

open Go.Proofs.YtllkoadcpobdaaaDoorW.PrintWords Go.Proofs.YtllkoadcpobdaaaDoorW.PrintLast Go.Proofs.YtllkoadcpobdaaaDoorW.PrintMore

attribute [local go_sem] setCell_drewN alloc_drewN

set_option maxHeartbeats 4000000 in
set_option maxRecDepth 100000 in
theorem zzTildeHolds (v n : Ver) (os : ByteArray) (bv bn : Nat) (d mD pD pre : Bool) (sp : v.pre.size ≤ 2147483647) (sq : n.pre.size ≤ 2147483647) (hne : bv ≠ bn) (w : World) (hV : At w bv (vc v)) (hN : At w bn (vc n)) (hS : Std w) :
    Calls Tryd.prog 62 #[.agg #[.string os, .pointer (some ⟨bn, 0, none⟩), .bool d, .bool mD, .bool pD], .pointer (some ⟨bv, 0, none⟩), .bool pre] w (RetB w (tildeB v n mD d pD pre)) := by
  have C1 := Lib.hid (fun W => inner os bn d mD pD W)
  have C2 := Lib.hid (fun W bc hv hc hn hs => hTilde v n ⟨#[]⟩ os bv bc bn mD d pD pre sp sq hne W hv hc hn hs)
  have HV := Aside0.mk hV; have HN := Aside0.mk hN; have HS := Aside0.mk hS
  clear hV hN hS sp sq hne 
  go_enter Tryd.func62, Tryd.ntmps62
  go_wp2_with fail
  refine (C1.out _).mono ?_
  rintro e w1 ⟨bc, rfl, hc, hl, hb⟩
  have hb' := (show Below w.heap.size w _ by go_grown).trans (hb.mono (by simp))
  have HB := Aside0.mk hb'; have HV1 := Aside0.mk (HV.out.below hb'); have HN1 := Aside0.mk (HN.out.below hb'); have HS1 := Aside0.mk (HS.out.below hb'); have HC := Aside0.mk hc
  clear hb hb' hc hl HV HN HS
  go_wp2_with fail
  refine (C2.out _ _ HV1.out HC.out HN1.out HS1.out).mono ?_
  rintro e w2 ⟨er, rfl, hb2⟩
  go_wp2_with fail
  go_ret2
  exact ⟨_, rfl, HB.out.trans (hb2.mono HB.out.size)⟩

set_option maxHeartbeats 8000000 in
set_option maxRecDepth 100000 in
theorem implTildeHolds (op gv : Int) (a b c : Nat) (p : ByteArray) (x0 x1 x2 : Nat) (xp xm : ByteArray) (pre : Bool) (os : ByteArray) (hos : impl_operator.f op = some os) (hg : 0 ≤ gv) (sp : xp.size ≤ 2147483647) (sq : p.size ≤ 2147483647) (w : World) (hS : Std w) :
    Calls Tryd.prog 27 #[.agg #[.int .i64 op, .int .i64 gv, .int .u64 (a : Int), .int .u64 (b : Int), .int .u64 (c : Int), .string p], .agg #[.int .u64 (x0 : Int), .int .u64 (x1 : Int), .int .u64 (x2 : Int), .string xp, .string xm], .bool pre] w
      (Ret1 w (tildeB ⟨x0, x1, x2, xp, xm, ⟨#[]⟩⟩ ⟨a, b, c, p, ⟨#[]⟩, ⟨#[]⟩⟩ (gv == 1) (decide (gv < 3)) (gv == 2) pre)) := by
  have C1 := Lib.hid (fun W => implTerm op gv a b c p os hos hg W)
  have C2 := Lib.hid (fun W => implVersion x0 x1 x2 xp xm W)
  have C3 := Lib.hid (fun W bv bn hne hv hn hs => zzTildeHolds ⟨x0, x1, x2, xp, xm, ⟨#[]⟩⟩ ⟨a, b, c, p, ⟨#[]⟩, ⟨#[]⟩⟩ os bv bn (decide (gv < 3)) (gv == 1) (gv == 2) pre sp sq hne W hv hn hs)
  have HS := Aside0.mk hS
  clear hS sp sq hos hg 
  generalize hR : tildeB ⟨x0, x1, x2, xp, xm, ⟨#[]⟩⟩ ⟨a, b, c, p, ⟨#[]⟩, ⟨#[]⟩⟩ (gv == 1) (decide (gv < 3)) (gv == 2) pre = R at *
  generalize decide (gv < 3) = D at *
  generalize (gv == 1) = D1 at *
  generalize (gv == 2) = D2 at *
  clear hR
  go_enter Tryd.func27, Tryd.ntmps27
  go_wp2_with fail
  generalize hW0 : World.alloc (World.alloc w _) _ = w0
  have t0 : At w0 w.heap.size [.int .i64 op, .int .i64 gv, .int .u64 (a : Int), .int .u64 (b : Int), .int .u64 (c : Int), .string p] := by
    rw [← hW0]
    exact (At.new _ _ _ _ rfl).below ((Below.refl _ _).alloc (Nat.le_refl _) _)
  have v0 : At w0 (w.heap.size + 1) [.int .u64 (x0 : Int), .int .u64 (x1 : Int), .int .u64 (x2 : Int), .string xp, .string xm] := by
    rw [← hW0]
    exact At.new _ _ _ _ (by simp)
  have b0 : Below w.heap.size w w0 := by
    rw [← hW0]
    go_grown
  have HT0 := Aside0.mk t0; have HV0 := Aside0.mk v0; have HB0 := Aside0.mk b0
  clear t0 v0 b0 hW0
  go_region_held3 (fun W' => (W'.cell? ⟨w.heap.size, 0, none⟩ = some (.int .i64 op) ∧ W'.cell? ⟨w.heap.size, 1, none⟩ = some (.int .i64 gv) ∧ W'.cell? ⟨w.heap.size, 2, none⟩ = some (.int .u64 (a : Int)) ∧ W'.cell? ⟨w.heap.size, 3, none⟩ = some (.int .u64 (b : Int)) ∧ W'.cell? ⟨w.heap.size, 4, none⟩ = some (.int .u64 (c : Int)) ∧ W'.cell? ⟨w.heap.size, 5, none⟩ = some (.string p)) ∧
      W'.cell? ⟨w.heap.size + 1, 0, none⟩ = some (.int .u64 (x0 : Int)) ∧ W'.cell? ⟨w.heap.size + 1, 1, none⟩ = some (.int .u64 (x1 : Int)) ∧ W'.cell? ⟨w.heap.size + 1, 2, none⟩ = some (.int .u64 (x2 : Int)) ∧ W'.cell? ⟨w.heap.size + 1, 3, none⟩ = some (.string xp) ∧ W'.cell? ⟨w.heap.size + 1, 4, none⟩ = some (.string xm))
    (first | (with_reducible exact ⟨HT0.out.drew.six, HV0.out.drew.five⟩) | (with_reducible exact ⟨HT3.out.six, HV3.out.five⟩) | (with_reducible exact ⟨HT2.out.six, HV2.out.five⟩) | (with_reducible exact ⟨HT1.out.six, HV1.out.five⟩)) (first
    | (go_at_call 54; (with_reducible refine (C1.out _).mono ?_); rintro e w1 ⟨g1, rfl, hn1, hl1, hb⟩; have hb1 := undrew hb; have HN1 := Aside0.mk hn1; have HT1 := Aside0.mk (HT0.out.below hb1); have HV1 := Aside0.mk (HV0.out.below hb1); have HB1 := Aside0.mk (HB0.out.trans (hb1.mono HB0.out.size)); have HS1 := Aside0.mk (HS.out.below HB1.out); clear hb hb1 hn1 hl1)
    | (go_at_call 55; (with_reducible refine (C2.out _).mono ?_); rintro e w2 ⟨g2, rfl, hv2, hl2, hb2⟩; have HL2 := Aside0.mk hl2; have HU2 := Aside0.mk hv2; have HN2 := Aside0.mk (HN1.out.below hb2); have HT2 := Aside0.mk (HT1.out.below hb2); have HV2 := Aside0.mk (HV1.out.below hb2); have HB2 := Aside0.mk (HB1.out.trans (hb2.mono HB1.out.size)); have HS2 := Aside0.mk (HS1.out.below hb2); clear hb2 hv2 hl2)
    | (go_at_call 62; refine (C3.out _ _ _ (by have := HN1.out.lt; have := HL2.out; omega) HU2.out HN2.out HS2.out).mono ?_; rintro e w3 ⟨er, rfl, hb3⟩; have HT3 := Aside0.mk (HT2.out.below hb3); have HV3 := Aside0.mk (HV2.out.below hb3); have HB3 := Aside0.mk (HB2.out.trans (hb3.mono HB2.out.size)); clear hb3))
  go_wp2_with fail
  go_ret
  exact ⟨rfl, HB3.out⟩

end Go.Proofs.YtllkoadcpobdaaaDoor.KX
namespace Go.Proofs.YtllkoadcpobdaaaDoor.PX

open Go Go.Proofs Go.RowKit Go.Lib Go.Proofs.YtllkoadcpobdaaaDoor Go.Proofs.YtllkoadcpobdaaaDoor.L Go.Proofs.YtllkoadcpobdaaaDoor.Bt Go.Proofs.YtllkoadcpobdaaaDoor.KX

def impl_TildeHolds.f (t0 t1 a b c : Int) (p : ByteArray) (x0 x1 x2 : Int) (xp xm : ByteArray) (pre : Bool) : Option Bool :=
  if 0 ≤ t1 ∧ okV a b c p ∧ okV x0 x1 x2 xp then some (tildeB (vOf x0 x1 x2 xp xm) (vOf a b c p ⟨#[]⟩) (t1 == 1) (decide (t1 < 3)) (t1 == 2) pre) else none

theorem op_some_DTilde (t0 : Int) : ∃ os, impl_operator.f t0 = some os := by
  unfold impl_operator.f
  repeat' first
    | exact ⟨_, rfl⟩
    | split

theorem impl_TildeHolds.calls (t0 t1 a b c : Int) (p : ByteArray) (x0 x1 x2 : Int) (xp xm : ByteArray) (pre : Bool) (r : Bool) (w : World) (hStd : Std w) (h : impl_TildeHolds.f t0 t1 a b c p x0 x1 x2 xp xm pre = some r) :
    Calls Tryd.prog 27 #[.agg #[.int .i64 t0, .int .i64 t1, .int .u64 a, .int .u64 b, .int .u64 c, .string p], .agg #[.int .u64 x0, .int .u64 x1, .int .u64 x2, .string xp, .string xm], .bool pre] w fun e w' => e = .returned (.bool r) ∧ Below w.heap.size w w' := by
  unfold impl_TildeHolds.f at h
  by_cases hc : 0 ≤ t1 ∧ okV a b c p ∧ okV x0 x1 x2 xp
  · rw [if_pos hc] at h
    cases h
    obtain ⟨h1, ⟨y0, y1, y2, y3⟩, ⟨z0, z1, z2, z3⟩⟩ := hc
    obtain ⟨a, rfl⟩ := Int.eq_ofNat_of_zero_le y0
    obtain ⟨b, rfl⟩ := Int.eq_ofNat_of_zero_le y1
    obtain ⟨c, rfl⟩ := Int.eq_ofNat_of_zero_le y2
    obtain ⟨x0, rfl⟩ := Int.eq_ofNat_of_zero_le z0
    obtain ⟨x1, rfl⟩ := Int.eq_ofNat_of_zero_le z1
    obtain ⟨x2, rfl⟩ := Int.eq_ofNat_of_zero_le z2
    obtain ⟨os, hos⟩ := op_some_DTilde t0
    exact implTildeHolds t0 t1 a b c p x0 x1 x2 xp xm pre os hos h1 z3 y3 w hStd
  · rw [if_neg hc] at h
    cases h

end Go.Proofs.YtllkoadcpobdaaaDoor.PX
namespace Go.Proofs.YtllkoadcpobdaaaDoor.KX

open Go.RowKit Go.Lib Go.Proofs Go.Proofs.YtllkoadcpobdaaaDoor.Base Go.Proofs.YtllkoadcpobdaaaDoor.L Go.Proofs.YtllkoadcpobdaaaDoor.Bt Go.Proofs.YtllkoadcpobdaaaDoor.PX

theorem beqI (a b : Nat) : ((a : Int) == (b : Int)) = decide (a = b) := by
  rw [Bool.eq_iff_iff, beq_iff_eq, decide_eq_true_eq]; omega

theorem beqI0 (a : Nat) : ((a : Int) == 0) = decide (a = 0) := beqI a 0

theorem tilde_law (v n : Ver) (gv : Int) (pre : Bool) (h1 : 1 ≤ gv) (h3 : gv ≤ 3) (hz : gv = 3 → ¬ (n.ma = 0 ∧ n.mi = 0 ∧ n.pa = 0)) (hs : (pre || (v.pre.toList == [])) = true) :
    tildeB v n (gv == 1) (decide (gv < 3)) (gv == 2) pre = (decide (0 ≤ verC v n) && (decide (v.ma = n.ma) && (decide (gv = 1) || decide (v.mi = n.mi)))) := by
  unfold tildeB lessB cTilde_r
  have e : decide (verC v n < 0) = !decide (0 ≤ verC v n) := by
    rw [Bool.eq_iff_iff, Bool.not_eq_true', decide_eq_true_eq, decide_eq_false_iff_not]; omega
  rw [beqI0, beqI0, beqI0, beqI, beqI, e]
  generalize decide (0 ≤ verC v n) = L
  generalize (v.pre.toList == []) = q at *
  obtain rfl | rfl | rfl : gv = 1 ∨ gv = 2 ∨ gv = 3 := by omega
  · generalize decide (v.ma = n.ma) = M; generalize decide (v.mi = n.mi) = I; generalize decide (n.ma = 0) = Z0; generalize decide (n.mi = 0) = Z1; generalize decide (n.pa = 0) = Z2
    revert hs L q pre M I Z0 Z1 Z2; decide
  · generalize decide (v.ma = n.ma) = M; generalize decide (v.mi = n.mi) = I; generalize decide (n.ma = 0) = Z0; generalize decide (n.mi = 0) = Z1; generalize decide (n.pa = 0) = Z2
    revert hs L q pre M I Z0 Z1 Z2; decide
  · have hz := hz rfl
    have hz' : (decide (n.ma = 0) && decide (n.mi = 0) && decide (n.pa = 0)) = false := by
      rw [Bool.eq_false_iff]
      intro h
      simp only [Bool.and_eq_true, decide_eq_true_eq] at h
      exact hz ⟨h.1.1, h.1.2, h.2⟩
    clear hz
    generalize decide (v.ma = n.ma) = M; generalize decide (v.mi = n.mi) = I; generalize decide (n.ma = 0) = Z0 at *; generalize decide (n.mi = 0) = Z1 at *; generalize decide (n.pa = 0) = Z2 at *
    revert hs hz' L q pre M I Z0 Z1 Z2; decide

end Go.Proofs.YtllkoadcpobdaaaDoor.KX
