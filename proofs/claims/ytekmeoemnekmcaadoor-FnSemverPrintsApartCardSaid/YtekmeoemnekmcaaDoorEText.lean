/- impl.VersionText as the printed texts take it: what String gives for a version of these parts. -/
import Derived.Test.YtekmeoemnekmcaaDoorPXx6
import Derived.Test.YtekmeoemnekmcaaDoorVOfX
namespace Go.Proofs.YtekmeoemnekmcaaDoor.PX
open Go Go.Proofs Go.RowKit Go.Lib Go.Proofs.YtekmeoemnekmcaaDoor.Base Go.Proofs.YtekmeoemnekmcaaDoor.L Go.Proofs.YtekmeoemnekmcaaDoor.Bt Go.Proofs.YtekmeoemnekmcaaDoor.KX
attribute [local go_sem] setCell_drewN alloc_drewN
def impl_VersionText.f (a0 a1 a2 : Int) (a3 a4 : ByteArray) : Option ByteArray := if 0 ≤ a0 ∧ 0 ≤ a1 ∧ 0 ≤ a2 then semver_Version_String.f a0 a1 a2 a3 a4 ⟨#[]⟩ else none
set_option maxHeartbeats 1000000 in
theorem impl_VersionText.calls (a0 a1 a2 : Int) (a3 a4 : ByteArray) (r : ByteArray) (w : World) (hPow : Pow w) (h : impl_VersionText.f a0 a1 a2 a3 a4 = some r) :
    Calls Tryd.prog 18 #[.agg #[.int .u64 a0, .int .u64 a1, .int .u64 a2, .string a3, .string a4]] w fun e w' => e = .returned (.string r) ∧ Below w.heap.size w w' := by
  unfold impl_VersionText.f at h
  by_cases hc : 0 ≤ a0 ∧ 0 ≤ a1 ∧ 0 ≤ a2
  · rw [if_pos hc] at h
    obtain ⟨x0, x1, x2⟩ := hc
    obtain ⟨a0, rfl⟩ := Int.eq_ofNat_of_zero_le x0
    obtain ⟨a1, rfl⟩ := Int.eq_ofNat_of_zero_le x1
    obtain ⟨a2, rfl⟩ := Int.eq_ofNat_of_zero_le x2
    have C1 := Lib.hid (fun W => version a0 a1 a2 a3 a4 W)
    have C2 := Lib.hid (fun W hp => semver_Version_String.calls _ _ _ _ _ _ _ W hp h)
    have HP := Lib.hid hPow
    clear h hPow x0 x1 x2
    go_enter Tryd.func18, Tryd.ntmps18
    go_wp2_with fail
    refine (C1.out _).mono ?_
    rintro e w1 ⟨g1, rfl, hv1, hl1, hb1⟩
    have d0 := hv1.c0; have d1 := hv1.c1; have d2 := hv1.c2; have d3 := hv1.c3; have d4 := hv1.c4; have d5 := hv1.c5
    simp only at d0 d1 d2 d3 d4 d5
    have HB := Lib.hid ((show Below w.heap.size w _ by go_grown).trans (hb1.mono (by simp)))
    clear hb1 hv1
    go_wp2_with (go_at_call 37; refine (C2.out _ (HP.out.below HB.out)).mono ?_; rintro e w2 ⟨rfl, hb2⟩)
    go_ret
    exact ⟨rfl, HB.out.trans (hb2.mono HB.out.size)⟩
  · rw [if_neg hc] at h
    cases h
end Go.Proofs.YtekmeoemnekmcaaDoor.PX
