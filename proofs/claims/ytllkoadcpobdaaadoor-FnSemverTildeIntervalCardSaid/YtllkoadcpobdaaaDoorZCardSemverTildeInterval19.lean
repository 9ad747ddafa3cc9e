/- The row and the tied card of FnSemverTildeInterval, out of its printed walk and its plain law. For every input that the statement lets in. -/
import Derived.Test.YtllkoadcpobdaaaDoorZCardSemverTildeInterval18
import Derived.RegionTactic
import Derived.Deep.RegionWith
namespace Go.Proofs.YtllkoadcpobdaaaDoor.Base
end Go.Proofs.YtllkoadcpobdaaaDoor.Base
namespace Go.Proofs.YtllkoadcpobdaaaDoor.Bt
end Go.Proofs.YtllkoadcpobdaaaDoor.Bt
namespace Go.Proofs.YtllkoadcpobdaaaDoor.KX
end Go.Proofs.YtllkoadcpobdaaaDoor.KX
namespace Go.Proofs.YtllkoadcpobdaaaDoor.L
end Go.Proofs.YtllkoadcpobdaaaDoor.L
namespace Go.Proofs.YtllkoadcpobdaaaDoor.PX
end Go.Proofs.YtllkoadcpobdaaaDoor.PX
namespace Go.Proofs.YtllkoadcpobdaaaDoor.Parse
end Go.Proofs.YtllkoadcpobdaaaDoor.Parse
namespace Go.Proofs.YtllkoadcpobdaaaDoor.KX

open Go.RowKit Go.Lib Go.Proofs Go.Sort Go.Proofs.YtllkoadcpobdaaaDoor.Base Go.Proofs.YtllkoadcpobdaaaDoor.L Go.Proofs.YtllkoadcpobdaaaDoor.Bt Go.Proofs.YtllkoadcpobdaaaDoor.Parse Go.Proofs.YtllkoadcpobdaaaDoor.PX

open Go.Proofs.YtllkoadcpobdaaaDoorW.PrintWords Go.Proofs.YtllkoadcpobdaaaDoorW.PrintLast Go.Proofs.YtllkoadcpobdaaaDoorW.PrintMore

attribute [local go_sem] setCell_drewN alloc_drewN

set_option maxHeartbeats 1000000 in
theorem cmpGreaterThanEqual (v o : Ver) (bv bo : Nat) (sp : v.pre.size ≤ 2147483647) (sq : o.pre.size ≤ 2147483647) (w : World) (hv : VerAt w bv v) (ho : VerAt w bo o) (hw : Std w) :
    Calls Tryd.prog 60 #[.pointer (some ⟨bv, 0, none⟩), .pointer (some ⟨bo, 0, none⟩)] w fun e w' => e = .returned (.bool (decide (0 ≤ verC v o))) ∧ Below w.heap.size w w' := by
  have C := Lib.hid (compare v o bv bo sp sq w hv ho hw)
  clear hv ho hw
  generalize verC v o = r at *
  go_enter Tryd.func60, Tryd.ntmps60
  go_wp2_with (go_at_call 86; refine C.out.mono ?_; rintro e w' ⟨rfl, hb⟩)
  go_ret
  exact ⟨rfl, hb⟩

set_option maxHeartbeats 2000000 in
set_option maxRecDepth 100000 in
theorem implGreaterThanEqual (a0 a1 a2 b0 b1 b2 : Nat) (ap am bp bm : ByteArray) (sp : ap.size ≤ 2147483647) (sq : bp.size ≤ 2147483647) (w : World) (hw : Std w) :
    Calls Tryd.prog 25 #[.agg #[.int .u64 (a0 : Int), .int .u64 (a1 : Int), .int .u64 (a2 : Int), .string ap, .string am], .agg #[.int .u64 (b0 : Int), .int .u64 (b1 : Int), .int .u64 (b2 : Int), .string bp, .string bm]] w
      fun e w' => e = .returned (.bool (let r := verC ⟨a0, a1, a2, ap, am, ⟨#[]⟩⟩ ⟨b0, b1, b2, bp, bm, ⟨#[]⟩⟩; decide (0 ≤ r))) ∧ Below w.heap.size w w' := by
  have C1 := Lib.hid (fun W => version a0 a1 a2 ap am W)
  have C2 := Lib.hid (fun W => version b0 b1 b2 bp bm W)
  have C3 := Lib.hid (fun (W : World) g h hv ho hw => cmpGreaterThanEqual ⟨a0, a1, a2, ap, am, ⟨#[]⟩⟩ ⟨b0, b1, b2, bp, bm, ⟨#[]⟩⟩ g h sp sq W hv ho hw)
  have HW := Aside0.mk hw
  clear hw
  go_enter Tryd.func25, Tryd.ntmps25
  go_wp2_with fail
  go_region_with (first
    | (go_at_call 55; (with_reducible refine (C1.out _).mono ?_); rintro e w1 ⟨g1, rfl, hv1, hl1, hb1⟩; obtain ⟨hc1, hf1⟩ := bcell hb1; have hz1 := hb1.size; simp at hz1; have HB1 := Aside0.mk ((show Below w.heap.size w _ by go_grown).trans (hb1.mono (by simp; omega))))
    | (go_at_call 55; (with_reducible refine (C2.out _).mono ?_); rintro e w2 ⟨g2, rfl, hv2, hl2, hb2⟩; have HB2 := Aside0.mk (HB1.out.trans (hb2.mono HB1.out.size)); have HW2 := Aside0.mk (HW.out.below HB2.out); have hv1' := hv1.below hb2)
    | (go_at_call 60; refine (C3.out _ _ _ hv1' hv2 HW2.out).mono ?_; rintro e w3 ⟨rfl, hb3⟩))
  all_goals
    go_wp2_with fail
    go_ret
    exact ⟨rfl, HB2.out.trans (hb3.mono HB2.out.size)⟩

end Go.Proofs.YtllkoadcpobdaaaDoor.KX
namespace Go.Proofs.YtllkoadcpobdaaaDoor.PX

open Go Go.Proofs Go.RowKit Go.Lib Go.Proofs.YtllkoadcpobdaaaDoor.L Go.Proofs.YtllkoadcpobdaaaDoor.Bt Go.Proofs.YtllkoadcpobdaaaDoor.KX

def impl_VersionGreaterEqual.f (a0 a1 a2 : Int) (a3 a4 : ByteArray) (b0 b1 b2 : Int) (b3 b4 : ByteArray) : Option Bool :=
  if okV a0 a1 a2 a3 ∧ okV b0 b1 b2 b3 then some (decide (0 ≤ verC (vOf a0 a1 a2 a3 a4) (vOf b0 b1 b2 b3 b4))) else none

theorem impl_VersionGreaterEqual.calls (a0 a1 a2 : Int) (a3 a4 : ByteArray) (b0 b1 b2 : Int) (b3 b4 : ByteArray) (r : Bool) (w : World) (hStd : Std w) (h : impl_VersionGreaterEqual.f a0 a1 a2 a3 a4 b0 b1 b2 b3 b4 = some r) :
    Calls Tryd.prog 25 #[.agg #[.int .u64 a0, .int .u64 a1, .int .u64 a2, .string a3, .string a4], .agg #[.int .u64 b0, .int .u64 b1, .int .u64 b2, .string b3, .string b4]] w fun e w' => e = .returned (.bool r) ∧ Below w.heap.size w w' := by
  unfold impl_VersionGreaterEqual.f at h
  by_cases hc : okV a0 a1 a2 a3 ∧ okV b0 b1 b2 b3
  · rw [if_pos hc] at h
    cases h
    obtain ⟨⟨x0, x1, x2, x3⟩, ⟨y0, y1, y2, y3⟩⟩ := hc
    obtain ⟨a0, rfl⟩ := Int.eq_ofNat_of_zero_le x0
    obtain ⟨a1, rfl⟩ := Int.eq_ofNat_of_zero_le x1
    obtain ⟨a2, rfl⟩ := Int.eq_ofNat_of_zero_le x2
    obtain ⟨b0, rfl⟩ := Int.eq_ofNat_of_zero_le y0
    obtain ⟨b1, rfl⟩ := Int.eq_ofNat_of_zero_le y1
    obtain ⟨b2, rfl⟩ := Int.eq_ofNat_of_zero_le y2
    exact implGreaterThanEqual a0 a1 a2 b0 b1 b2 a3 a4 b3 b4 x3 y3 w hStd
  · rw [if_neg hc] at h
    cases h

end Go.Proofs.YtllkoadcpobdaaaDoor.PX
namespace Go.Proofs.YtllkoadcpobdaaaDoor.KX

open Go.RowKit Go.Lib Go.Proofs Go.Sort Go.Proofs.YtllkoadcpobdaaaDoor.Base Go.Proofs.YtllkoadcpobdaaaDoor.L Go.Proofs.YtllkoadcpobdaaaDoor.Bt Go.Proofs.YtllkoadcpobdaaaDoor.Parse Go.Proofs.YtllkoadcpobdaaaDoor.PX

open Go.Proofs.YtllkoadcpobdaaaDoorW.PrintWords Go.Proofs.YtllkoadcpobdaaaDoorW.PrintLast Go.Proofs.YtllkoadcpobdaaaDoorW.PrintMore

attribute [local go_sem] setCell_drewN alloc_drewN

set_option maxHeartbeats 1000000 in
theorem cmpLessThan (v o : Ver) (bv bo : Nat) (sp : v.pre.size ≤ 2147483647) (sq : o.pre.size ≤ 2147483647) (w : World) (hv : VerAt w bv v) (ho : VerAt w bo o) (hw : Std w) :
    Calls Tryd.prog 61 #[.pointer (some ⟨bv, 0, none⟩), .pointer (some ⟨bo, 0, none⟩)] w fun e w' => e = .returned (.bool (decide (verC v o < 0))) ∧ Below w.heap.size w w' := by
  have C := Lib.hid (compare v o bv bo sp sq w hv ho hw)
  clear hv ho hw
  generalize verC v o = r at *
  go_enter Tryd.func61, Tryd.ntmps61
  go_wp2_with (go_at_call 86; refine C.out.mono ?_; rintro e w' ⟨rfl, hb⟩)
  go_ret
  exact ⟨rfl, hb⟩

set_option maxHeartbeats 2000000 in
set_option maxRecDepth 100000 in
theorem implLessThan (a0 a1 a2 b0 b1 b2 : Nat) (ap am bp bm : ByteArray) (sp : ap.size ≤ 2147483647) (sq : bp.size ≤ 2147483647) (w : World) (hw : Std w) :
    Calls Tryd.prog 26 #[.agg #[.int .u64 (a0 : Int), .int .u64 (a1 : Int), .int .u64 (a2 : Int), .string ap, .string am], .agg #[.int .u64 (b0 : Int), .int .u64 (b1 : Int), .int .u64 (b2 : Int), .string bp, .string bm]] w
      fun e w' => e = .returned (.bool (let r := verC ⟨a0, a1, a2, ap, am, ⟨#[]⟩⟩ ⟨b0, b1, b2, bp, bm, ⟨#[]⟩⟩; decide (r < 0))) ∧ Below w.heap.size w w' := by
  have C1 := Lib.hid (fun W => version a0 a1 a2 ap am W)
  have C2 := Lib.hid (fun W => version b0 b1 b2 bp bm W)
  have C3 := Lib.hid (fun (W : World) g h hv ho hw => cmpLessThan ⟨a0, a1, a2, ap, am, ⟨#[]⟩⟩ ⟨b0, b1, b2, bp, bm, ⟨#[]⟩⟩ g h sp sq W hv ho hw)
  have HW := Aside0.mk hw
  clear hw
  go_enter Tryd.func26, Tryd.ntmps26
  go_wp2_with fail
  go_region_with (first
    | (go_at_call 55; (with_reducible refine (C1.out _).mono ?_); rintro e w1 ⟨g1, rfl, hv1, hl1, hb1⟩; obtain ⟨hc1, hf1⟩ := bcell hb1; have hz1 := hb1.size; simp at hz1; have HB1 := Aside0.mk ((show Below w.heap.size w _ by go_grown).trans (hb1.mono (by simp; omega))))
    | (go_at_call 55; (with_reducible refine (C2.out _).mono ?_); rintro e w2 ⟨g2, rfl, hv2, hl2, hb2⟩; have HB2 := Aside0.mk (HB1.out.trans (hb2.mono HB1.out.size)); have HW2 := Aside0.mk (HW.out.below HB2.out); have hv1' := hv1.below hb2)
    | (go_at_call 61; refine (C3.out _ _ _ hv1' hv2 HW2.out).mono ?_; rintro e w3 ⟨rfl, hb3⟩))
  all_goals
    go_wp2_with fail
    go_ret
    exact ⟨rfl, HB2.out.trans (hb3.mono HB2.out.size)⟩

end Go.Proofs.YtllkoadcpobdaaaDoor.KX
namespace Go.Proofs.YtllkoadcpobdaaaDoor.PX

open Go Go.Proofs Go.RowKit Go.Lib Go.Proofs.YtllkoadcpobdaaaDoor.L Go.Proofs.YtllkoadcpobdaaaDoor.Bt Go.Proofs.YtllkoadcpobdaaaDoor.KX

def impl_VersionLess.f (a0 a1 a2 : Int) (a3 a4 : ByteArray) (b0 b1 b2 : Int) (b3 b4 : ByteArray) : Option Bool :=
  if okV a0 a1 a2 a3 ∧ okV b0 b1 b2 b3 then some (decide (verC (vOf a0 a1 a2 a3 a4) (vOf b0 b1 b2 b3 b4) < 0)) else none

theorem impl_VersionLess.calls (a0 a1 a2 : Int) (a3 a4 : ByteArray) (b0 b1 b2 : Int) (b3 b4 : ByteArray) (r : Bool) (w : World) (hStd : Std w) (h : impl_VersionLess.f a0 a1 a2 a3 a4 b0 b1 b2 b3 b4 = some r) :
    Calls Tryd.prog 26 #[.agg #[.int .u64 a0, .int .u64 a1, .int .u64 a2, .string a3, .string a4], .agg #[.int .u64 b0, .int .u64 b1, .int .u64 b2, .string b3, .string b4]] w fun e w' => e = .returned (.bool r) ∧ Below w.heap.size w w' := by
  unfold impl_VersionLess.f at h
  by_cases hc : okV a0 a1 a2 a3 ∧ okV b0 b1 b2 b3
  · rw [if_pos hc] at h
    cases h
    obtain ⟨⟨x0, x1, x2, x3⟩, ⟨y0, y1, y2, y3⟩⟩ := hc
    obtain ⟨a0, rfl⟩ := Int.eq_ofNat_of_zero_le x0
    obtain ⟨a1, rfl⟩ := Int.eq_ofNat_of_zero_le x1
    obtain ⟨a2, rfl⟩ := Int.eq_ofNat_of_zero_le x2
    obtain ⟨b0, rfl⟩ := Int.eq_ofNat_of_zero_le y0
    obtain ⟨b1, rfl⟩ := Int.eq_ofNat_of_zero_le y1
    obtain ⟨b2, rfl⟩ := Int.eq_ofNat_of_zero_le y2
    exact implLessThan a0 a1 a2 b0 b1 b2 a3 a4 b3 b4 x3 y3 w hStd
  · rw [if_neg hc] at h
    cases h

end Go.Proofs.YtllkoadcpobdaaaDoor.PX
