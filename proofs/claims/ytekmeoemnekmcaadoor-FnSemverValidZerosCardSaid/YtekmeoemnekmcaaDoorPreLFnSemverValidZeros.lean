/- impl.ValidPre, and what it tells: a valid prerelease. For every text of at most 10^9 bytes. -/
import Derived.Test.YtekmeoemnekmcaaDoorPreFnSemverValidZeros
import Derived.Test.YtekmeoemnekmcaaDoorDoorMetaFnSemverValidZeros
namespace Go.Proofs.YtekmeoemnekmcaaDoor.MetaFnSemverValidZeros
open Go.RowKit Go.Lib Go.Proofs Go.Proofs.YtekmeoemnekmcaaDoor.Ascii Go.Proofs.YtekmeoemnekmcaaDoor.Base Go.Proofs.YtekmeoemnekmcaaDoor.L Go.Proofs.YtekmeoemnekmcaaDoor.SplitFnSemverValidZeros Go.Proofs.YtekmeoemnekmcaaDoor.PFnSemverValidZeros
open Go.Proofs.YtekmeoemnekmcaaDoorW.PrintWords Go.Proofs.YtekmeoemnekmcaaDoorW.PrintLast Go.Proofs.YtekmeoemnekmcaaDoorW.PrintMore

theorem isId_of_dig (b : UInt8) (h : isDig b = true) : isId b = true := by unfold isId; rw [h]; rfl
theorem preKind_zero (p : List UInt8) : (preKind (ofL p) == 0) = (metaP p && !zeroP p) := by
  unfold preKind metaP zeroP lead
  rw [toList_bl, bl_ofL, only_digits, only_allowed, size_ofL]
  have e : (ofL p).data.toList = p := rfl
  rw [e]
  by_cases hp : p = []
  · subst hp; rfl
  · rw [if_neg hp]
    have hb : (p == []) = false := beq_eq_false_iff_ne.2 hp
    rw [hb]
    cases hd : p.all isDig
    · cases hi : p.all isId <;> simp
    · have hi : p.all isId = true := List.all_eq_true.2 (fun b hb => isId_of_dig b (List.all_eq_true.1 hd b hb))
      rw [hi]
      generalize decide (1 < p.length) = a
      generalize (p.headD 0 == 48) = b
      cases a <;> cases b <;> rfl
theorem preErr_zero : ∀ L : List (List UInt8), (preErr (L.map ofL) == 0) = L.all (fun p => metaP p && !zeroP p)
  | [] => rfl
  | p :: t => by
    rw [List.map_cons, preErr, List.all_cons, ← preKind_zero p, ← preErr_zero t]
    by_cases h : preKind (ofL p) = 0
    · rw [if_pos h, h]; simp
    · rw [if_neg h]
      have hb : (preKind (ofL p) == 0) = false := beq_eq_false_iff_ne.2 h
      rw [hb]; simp

theorem validatePrerelease_l (s : ByteArray) (hs : s.size ≤ 1000000000) (t1 t2 : TypeId) (p1 p2 : Value) (w : World)
    (hv : w.cell? ⟨5, 0, none⟩ = some (.iface t1 p1)) (hg : 5 < w.heap.size)
    (hu : w.cell? ⟨4, 0, none⟩ = some (.iface t2 p2)) (hf : 4 < w.heap.size) :
    Calls Tryd.prog 55 #[.string s] w fun e w' => e = .returned (preVal t1 p1 t2 p2 (preErr ((splitL 46 (bl s)).map ofL))) ∧ Below w.heap.size w w' :=
  validatePrerelease (s.size + 2) s _ (zzSplit_f s 46 hs _ (Nat.le_refl _)) (split_len s hs) t1 t2 p1 p2 w hv hg hu hf

set_option maxHeartbeats 1000000 in
theorem implValidPre (s : ByteArray) (hs : s.size ≤ 1000000000) (t1 t2 : TypeId) (p1 p2 : Value) (w : World)
    (hv : w.cell? ⟨5, 0, none⟩ = some (.iface t1 p1)) (hg : 5 < w.heap.size)
    (hu : w.cell? ⟨4, 0, none⟩ = some (.iface t2 p2)) (hf : 4 < w.heap.size) :
    Calls Tryd.prog 15 #[.string s] w fun e w' => e = .returned (.bool (preOk (bl s))) ∧ Below w.heap.size w w' := by
  have C := Lib.hid (validatePrerelease_l s hs t1 t2 p1 p2 w hv hg hu hf)
  clear hv hg hu hf
  have hz := preErr_zero (splitL 46 (bl s))
  change _ = preOk (bl s) at hz
  rw [← hz]
  clear hz
  generalize preErr ((splitL 46 (bl s)).map ofL) = n at *
  by_cases h0 : n = 0
  · have hb : (n == 0) = true := beq_iff_eq.2 h0
    rw [hb]
    unfold preVal at C
    rw [if_pos h0] at C
    clear h0 hb
    go_enter Tryd.func15, Tryd.ntmps15
    go_wp2_with (first | (go_at_call 55; refine C.out.mono ?_; rintro e w' ⟨rfl, hb⟩) | go_in)
    go_ret
    exact ⟨rfl, hb⟩
  · have hb : (n == 0) = false := beq_eq_false_iff_ne.2 h0
    rw [hb]
    unfold preVal at C
    rw [if_neg h0] at C
    clear hb h0
    by_cases h1 : n = 1
    · rw [if_pos h1] at C
      clear h1
      go_enter Tryd.func15, Tryd.ntmps15
      go_wp2_with (first | (go_at_call 55; refine C.out.mono ?_; rintro e w' ⟨rfl, hb⟩) | go_in)
      go_ret
      exact ⟨rfl, hb⟩
    · rw [if_neg h1] at C
      clear h1
      go_enter Tryd.func15, Tryd.ntmps15
      go_wp2_with (first | (go_at_call 55; refine C.out.mono ?_; rintro e w' ⟨rfl, hb⟩) | go_in)
      go_ret
      exact ⟨rfl, hb⟩
end Go.Proofs.YtekmeoemnekmcaaDoor.MetaFnSemverValidZeros
