/- The row and the tied card of FnSemverKindOfNext, out of its printed walk and its plain law. For every input that the statement lets in. -/
import Derived.Test.YtnncjgoogjookaaDoorZCardSemverKindOfNext9
import Derived.Test.YtnncjgoogjookaaDoorZCardSemverKindOfNext16
namespace Go.Proofs.YtnncjgoogjookaaDoor.Ascii
end Go.Proofs.YtnncjgoogjookaaDoor.Ascii
namespace Go.Proofs.YtnncjgoogjookaaDoor.Base
end Go.Proofs.YtnncjgoogjookaaDoor.Base
namespace Go.Proofs.YtnncjgoogjookaaDoor.L
end Go.Proofs.YtnncjgoogjookaaDoor.L
namespace Go.Proofs.YtnncjgoogjookaaDoor.PX
end Go.Proofs.YtnncjgoogjookaaDoor.PX
namespace Go.Proofs.YtnncjgoogjookaaDoor.SplitX
end Go.Proofs.YtnncjgoogjookaaDoor.SplitX
namespace Go.Proofs.YtnncjgoogjookaaDoor.MetaX

open Go.RowKit Go.Lib Go.Proofs Go.Proofs.YtnncjgoogjookaaDoor.Ascii Go.Proofs.YtnncjgoogjookaaDoor.Base Go.Proofs.YtnncjgoogjookaaDoor.L Go.Proofs.YtnncjgoogjookaaDoor.SplitX Go.Proofs.YtnncjgoogjookaaDoor.PX

open Go.Proofs.YtnncjgoogjookaaDoorW.PrintWords Go.Proofs.YtnncjgoogjookaaDoorW.PrintLast Go.Proofs.YtnncjgoogjookaaDoorW.PrintMore

theorem toList_bl (s : ByteArray) : s.toList = bl s := ByteArray.toList_eq s

theorem only_digits (p : List UInt8) : only (ofL p) digits = p.all isDig := by
  rw [only_ascii _ _ (by decide)]
  exact congrArg (fun f => p.all f) (funext fun b => digL_eq b)

theorem only_allowed (p : List UInt8) : only (ofL p) allowed = p.all isId := by
  rw [only_ascii _ _ (by decide +kernel)]
  exact congrArg (fun f => p.all f) (funext fun b => idL_eq b)

theorem metaPart_eq (p : List UInt8) : metaPart (ofL p) = metaP p := by
  unfold metaPart metaP
  rw [toList_bl, bl_ofL, only_allowed]

theorem all_meta (l : List UInt8) : ((splitL 46 l).map ofL).all metaPart = metaOk l := by
  unfold metaOk
  rw [List.all_map]
  exact congrArg (fun f => (splitL 46 l).all f) (funext fun p => metaPart_eq p)

theorem split_len (s : ByteArray) (hs : s.size ≤ 2147483647) : ((splitL 46 (bl s)).map ofL).length ≤ 1000000000000 := by
  have := splitL_len 46 (bl s)
  rw [List.length_map]
  rw [bl_len] at this
  omega

theorem validateMetadata_l (s : ByteArray) (hs : s.size ≤ 2147483647) (te : TypeId) (pe : Value) (w : World)
    (hv : w.cell? ⟨6, 0, none⟩ = some (.iface te pe)) (hg : 6 < w.heap.size) :
    Calls Tryd.prog 18 #[.string s] w fun e w' => e = .returned (if metaOk (bl s) = true then .nilIface else .iface te pe) ∧ Below w.heap.size w w' := by
  have := validateMetadata (s.size + 2) s _ (zzSplit_f s 46 hs _ (Nat.le_refl _)) (split_len s hs) te pe w hv hg
  unfold metaVal at this
  rw [all_meta] at this
  exact this

end Go.Proofs.YtnncjgoogjookaaDoor.MetaX
namespace Go.Proofs.YtnncjgoogjookaaDoor.MetaX

open Go.RowKit Go.Lib Go.Proofs Go.Proofs.YtnncjgoogjookaaDoor.Ascii Go.Proofs.YtnncjgoogjookaaDoor.Base Go.Proofs.YtnncjgoogjookaaDoor.L Go.Proofs.YtnncjgoogjookaaDoor.SplitX Go.Proofs.YtnncjgoogjookaaDoor.PX

open Go.Proofs.YtnncjgoogjookaaDoorW.PrintWords Go.Proofs.YtnncjgoogjookaaDoorW.PrintLast Go.Proofs.YtnncjgoogjookaaDoorW.PrintMore

theorem isId_of_dig (b : UInt8) (h : isDig b = true) : isId b = true := by unfold isId; rw [h]; rfl

theorem preKind_zero (p : List UInt8) : (preKind (ofL p) == 0) = (metaP p && !zeroP p) := by
  unfold preKind metaP zeroP lead
  rw [toList_bl, bl_ofL, only_digits, only_allowed, size_ofL]
  have e : (ofL p).data.toList = p := rfl
  rw [e]
  by_cases hp : p = []
  · subst hp; rfl
  · rw [if_neg hp]
    have hb : (p == []) = false := beq_eq_false_iff_ne.2 hp
    rw [hb]
    cases hd : p.all isDig
    · cases hi : p.all isId <;> simp
    · have hi : p.all isId = true := List.all_eq_true.2 (fun b hb => isId_of_dig b (List.all_eq_true.1 hd b hb))
      rw [hi]
      generalize decide (1 < p.length) = a
      generalize (p.headD 0 == 48) = b
      cases a <;> cases b <;> rfl

theorem preErr_zero : ∀ L : List (List UInt8), (preErr (L.map ofL) == 0) = L.all (fun p => metaP p && !zeroP p)
  | [] => rfl
  | p :: t => by
    rw [List.map_cons, preErr, List.all_cons, ← preKind_zero p, ← preErr_zero t]
    by_cases h : preKind (ofL p) = 0
    · rw [if_pos h, h]; simp
    · rw [if_neg h]
      have hb : (preKind (ofL p) == 0) = false := beq_eq_false_iff_ne.2 h
      rw [hb]; simp

theorem validatePrerelease_l (s : ByteArray) (hs : s.size ≤ 2147483647) (t1 t2 : TypeId) (p1 p2 : Value) (w : World)
    (hv : w.cell? ⟨5, 0, none⟩ = some (.iface t1 p1)) (hg : 5 < w.heap.size)
    (hu : w.cell? ⟨4, 0, none⟩ = some (.iface t2 p2)) (hf : 4 < w.heap.size) :
    Calls Tryd.prog 19 #[.string s] w fun e w' => e = .returned (preVal t1 p1 t2 p2 (preErr ((splitL 46 (bl s)).map ofL))) ∧ Below w.heap.size w w' :=
  validatePrerelease (s.size + 2) s _ (zzSplit_f s 46 hs _ (Nat.le_refl _)) (split_len s hs) t1 t2 p1 p2 w hv hg hu hf

end Go.Proofs.YtnncjgoogjookaaDoor.MetaX
