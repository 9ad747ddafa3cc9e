/- impl.ValidMeta, and what it tells: valid metadata. For every text of at most 10^9 bytes. -/
import Derived.Test.YtekmeoemnekmcaaDoorMetaFnSemverValidZeros
import Derived.Test.YtekmeoemnekmcaaDoorSplitFnSemverValidZeros
namespace Go.Proofs.YtekmeoemnekmcaaDoor.MetaFnSemverValidZeros
open Go.RowKit Go.Lib Go.Proofs Go.Proofs.YtekmeoemnekmcaaDoor.Ascii Go.Proofs.YtekmeoemnekmcaaDoor.Base Go.Proofs.YtekmeoemnekmcaaDoor.L Go.Proofs.YtekmeoemnekmcaaDoor.SplitFnSemverValidZeros Go.Proofs.YtekmeoemnekmcaaDoor.PFnSemverValidZeros
open Go.Proofs.YtekmeoemnekmcaaDoorW.PrintWords Go.Proofs.YtekmeoemnekmcaaDoorW.PrintLast Go.Proofs.YtekmeoemnekmcaaDoorW.PrintMore

theorem toList_bl (s : ByteArray) : s.toList = bl s := ByteArray.toList_eq s
theorem only_digits (p : List UInt8) : only (ofL p) digits = p.all isDig := by
  rw [only_ascii _ _ (by decide)]
  exact congrArg (fun f => p.all f) (funext fun b => digL_eq b)
theorem only_allowed (p : List UInt8) : only (ofL p) allowed = p.all isId := by
  rw [only_ascii _ _ (by decide +kernel)]
  exact congrArg (fun f => p.all f) (funext fun b => idL_eq b)
theorem metaPart_eq (p : List UInt8) : metaPart (ofL p) = metaP p := by
  unfold metaPart metaP
  rw [toList_bl, bl_ofL, only_allowed]
theorem all_meta (l : List UInt8) : ((splitL 46 l).map ofL).all metaPart = metaOk l := by
  unfold metaOk
  rw [List.all_map]
  exact congrArg (fun f => (splitL 46 l).all f) (funext fun p => metaPart_eq p)
theorem split_len (s : ByteArray) (hs : s.size ≤ 1000000000) : ((splitL 46 (bl s)).map ofL).length ≤ 1000000000000 := by
  have := splitL_len 46 (bl s)
  rw [List.length_map]
  rw [bl_len] at this
  omega

theorem validateMetadata_l (s : ByteArray) (hs : s.size ≤ 1000000000) (te : TypeId) (pe : Value) (w : World)
    (hv : w.cell? ⟨6, 0, none⟩ = some (.iface te pe)) (hg : 6 < w.heap.size) :
    Calls Tryd.prog 53 #[.string s] w fun e w' => e = .returned (if metaOk (bl s) = true then .nilIface else .iface te pe) ∧ Below w.heap.size w w' := by
  have := validateMetadata (s.size + 2) s _ (zzSplit_f s 46 hs _ (Nat.le_refl _)) (split_len s hs) te pe w hv hg
  unfold metaVal at this
  rw [all_meta] at this
  exact this
end Go.Proofs.YtekmeoemnekmcaaDoor.MetaFnSemverValidZeros
