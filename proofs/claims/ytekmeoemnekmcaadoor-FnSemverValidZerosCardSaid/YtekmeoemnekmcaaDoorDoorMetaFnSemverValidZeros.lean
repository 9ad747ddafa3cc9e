/- impl.ValidMeta tells whether a text is valid metadata. For every text of at most 10^9 bytes. -/
import Derived.Test.YtekmeoemnekmcaaDoorMetaLFnSemverValidZeros
namespace Go.Proofs.YtekmeoemnekmcaaDoor.MetaFnSemverValidZeros
open Go.RowKit Go.Lib Go.Proofs Go.Proofs.YtekmeoemnekmcaaDoor.Ascii Go.Proofs.YtekmeoemnekmcaaDoor.Base Go.Proofs.YtekmeoemnekmcaaDoor.L Go.Proofs.YtekmeoemnekmcaaDoor.SplitFnSemverValidZeros Go.Proofs.YtekmeoemnekmcaaDoor.PFnSemverValidZeros
open Go.Proofs.YtekmeoemnekmcaaDoorW.PrintWords Go.Proofs.YtekmeoemnekmcaaDoorW.PrintLast Go.Proofs.YtekmeoemnekmcaaDoorW.PrintMore

set_option maxHeartbeats 1000000 in
theorem implValidMeta (s : ByteArray) (hs : s.size ≤ 1000000000) (te : TypeId) (pe : Value) (w : World)
    (hv : w.cell? ⟨6, 0, none⟩ = some (.iface te pe)) (hg : 6 < w.heap.size) :
    Calls Tryd.prog 11 #[.string s] w fun e w' => e = .returned (.bool (metaOk (bl s))) ∧ Below w.heap.size w w' := by
  have C := Lib.hid (validateMetadata_l s hs te pe w hv hg)
  clear hv hg
  cases hm : metaOk (bl s) <;> rw [hm] at C <;> clear hm <;> simp only [Bool.false_eq_true, if_false, if_true] at C
  · go_enter Tryd.func11, Tryd.ntmps11
    go_wp2_with (first | (go_at_call 53; refine C.out.mono ?_; rintro e w' ⟨rfl, hb⟩) | go_in)
    go_ret
    exact ⟨rfl, hb⟩
  · go_enter Tryd.func11, Tryd.ntmps11
    go_wp2_with (first | (go_at_call 53; refine C.out.mono ?_; rintro e w' ⟨rfl, hb⟩) | go_in)
    go_ret
    exact ⟨rfl, hb⟩
end Go.Proofs.YtekmeoemnekmcaaDoor.MetaFnSemverValidZeros
