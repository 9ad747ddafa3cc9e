/- The row and the tied card of FnSemverIncPatchLeast, out of its printed walk and its plain law. For every input that the statement lets in. -/
import Derived.Test.YtekmeoemnekmcaaDoorZCardSemverIncPatchLeast1
import Derived.Test.YtekmeoemnekmcaaDoorZCardSemverIncPatchLeast16
import Derived.Test.YtekmeoemnekmcaaDoorZCardSemverIncPatchLeast20
import Derived.Deep.RegionHeld3
import Derived.RegionTactic
import Derived.Deep.RegionWith
namespace Go.Proofs.YtekmeoemnekmcaaDoor.KX

open Go.RowKit Go.Lib Go.Sort Go.Proofs Go.Proofs.YtekmeoemnekmcaaDoor Go.Proofs.YtekmeoemnekmcaaDoor.Base Go.Proofs.YtekmeoemnekmcaaDoor.L Go.Proofs.YtekmeoemnekmcaaDoor.Bt Go.Proofs.YtekmeoemnekmcaaDoor.PX

open Go.Proofs.YtekmeoemnekmcaaDoorW.PrintWords Go.Proofs.YtekmeoemnekmcaaDoorW.PrintLast Go.Proofs.YtekmeoemnekmcaaDoorW.PrintMore

attribute [local go_sem] setCell_drewN alloc_drewN

/-- It returns a version of these numbers without prerelease and metadata. -/
def IncRet (w : World) (a b c : Int) (e : Ending) (w' : World) : Prop := ∃ og : ByteArray, e = .returned (.agg #[.int .u64 a, .int .u64 b, .int .u64 c, .string ⟨#[]⟩, .string ⟨#[]⟩, .string og]) ∧ Below w.heap.size w w'

set_option maxHeartbeats 8000000 in
set_option maxRecDepth 100000 in
theorem inc_pre (a b c : Nat) (p m : ByteArray) (ha : a ≤ 18446744073709551615) (hb : b ≤ 18446744073709551615) (hc : c ≤ 18446744073709551615) (h1 : bl p ≠ []) (w : World) (hp : Pow w) :
    Calls Tryd.prog 43 #[.agg #[.int .u64 (a : Int), .int .u64 (b : Int), .int .u64 (c : Int), .string p, .string m, .string ⟨#[]⟩]] w (IncRet w a b c) := by
  have C1 := Lib.hid (fun W => semver_Version_originalVPrefix.calls (a : Int) b c p m ⟨#[]⟩ ⟨#[]⟩ W (by unfold semver_Version_originalVPrefix.f; rw [if_pos (by rw [toList_bl])]))
  have C2 := Lib.hid (fun W hW => semver_Version_String.calls (a : Int) b c ⟨#[]⟩ ⟨#[]⟩ ⟨#[]⟩ _ W hW (string_f a b c ⟨#[]⟩ ⟨#[]⟩ ⟨#[]⟩ ha hb hc (by decide) (by decide)))
  have t1 : (p.toList == []) = false := beq_eq_false_iff_ne.2 (by rw [toList_bl]; exact h1)
  have t2 : (p.toList != []) = true := by rw [bne, t1]; rfl
  have hs : (ofL (verText a b c (bl ⟨#[]⟩) (bl ⟨#[]⟩))).size ≤ 1000 := by
    have na := digits20 a ha
    have nb := digits20 b hb
    have nc := digits20 c hc
    rw [show bl ⟨#[]⟩ = [] from rfl, size_ofL]
    simp only [verText, List.length_append, List.length_cons, List.length_nil, if_true]
    omega
  generalize ofL (verText a b c (bl ⟨#[]⟩) (bl ⟨#[]⟩)) = st at C2 hs
  have hs1 : st.size ≤ 9223372036854775807 := by omega
  have hs2 : ((⟨#[]⟩ : ByteArray) ++ (⟨#[]⟩ : ByteArray)).size + st.size ≤ 9223372036854775807 := by rw [show ((⟨#[]⟩ : ByteArray) ++ (⟨#[]⟩ : ByteArray)).size = 0 from rfl]; omega
  have hs3 : 0 + st.size ≤ 9223372036854775807 := by omega
  have HP := Lib.hid hp
  clear hp ha hb hc h1 hs
  go_enter Tryd.func43, Tryd.ntmps43
  go_wp2_with fail
  generalize hW0 : World.alloc (World.alloc (World.alloc w _) _) _ = w0
  have v0 : Box w0 w.heap.size [.int .u64 (a : Int), .int .u64 (b : Int), .int .u64 (c : Int), .string p, .string m, .string ⟨#[]⟩] := by
    rw [← hW0]
    exact (Box.new' _ _ _ _ rfl).below (((Below.refl _ _).alloc (Nat.le_refl _) _).alloc (by simp) _)
  have z0 : Box w0 (w.heap.size + 1) [.int .u64 0, .int .u64 0, .int .u64 0, .string ⟨#[]⟩, .string ⟨#[]⟩, .string ⟨#[]⟩] := by
    rw [← hW0]
    exact (Box.new' _ _ _ _ (by simp)).below ((Below.refl _ _).alloc (Nat.le_refl _) _)
  have n0 : Box w0 (w.heap.size + 1 + 1) [.int .u64 (a : Int), .int .u64 (b : Int), .int .u64 (c : Int), .string ⟨#[]⟩, .string ⟨#[]⟩, .string ⟨#[]⟩] := by
    rw [← hW0]
    exact Box.new' _ _ _ _ (by simp)
  have b0 : Below w.heap.size w w0 := by
    rw [← hW0]
    go_grown
  have p0 : Pow w0 := HP.out.below b0
  have HV0 := Aside0.mk v0
  have HZ0 := Aside0.mk z0
  have HN0 := Aside0.mk n0
  have HB0 := Aside0.mk b0
  have HP0 := Aside0.mk p0
  clear v0 z0 n0 b0 p0 hW0
  have a0 := HV0.out.cell 0 _ rfl; have a1 := HV0.out.cell 1 _ rfl; have a2 := HV0.out.cell 2 _ rfl; have a3 := HV0.out.cell 3 _ rfl; have a4 := HV0.out.cell 4 _ rfl; have a5 := HV0.out.cell 5 _ rfl
  have n0 := HN0.out.cell 0 _ rfl; have n1 := HN0.out.cell 1 _ rfl; have n2 := HN0.out.cell 2 _ rfl; have n3 := HN0.out.cell 3 _ rfl; have n4 := HN0.out.cell 4 _ rfl; have n5 := HN0.out.cell 5 _ rfl
  go_region_with (first
    | (go_at_call 60; (with_reducible refine (C1.out _).mono ?_); rintro e w1 ⟨rfl, hd1⟩; have hb1 := undrew hd1; clear hd1; have HV1 := Aside0.mk (HV0.out.below hb1); have HN1 := Aside0.mk (HN0.out.below hb1); have HZ1 := Aside0.mk (HZ0.out.below hb1); have HB1 := Aside0.mk (HB0.out.trans (hb1.mono HB0.out.size)); have HP1 := Aside0.mk (HP0.out.below hb1); clear hb1; have n0 := HN1.out.cell 0 _ rfl; have n1 := HN1.out.cell 1 _ rfl; have n2 := HN1.out.cell 2 _ rfl; have n3 := HN1.out.cell 3 _ rfl; have n4 := HN1.out.cell 4 _ rfl; have n5 := HN1.out.cell 5 _ rfl)
    | (go_at_call 37; (with_reducible refine (C2.out _ HP1.out).mono ?_); rintro e w2 ⟨rfl, hb2⟩; have HN2 := Aside0.mk (HN1.out.below hb2); have HZ2 := Aside0.mk (HZ1.out.below hb2); have HB2 := Aside0.mk (HB1.out.trans (hb2.mono HB1.out.size)); clear hb2; have f2 := HN2.out.free; have n0 := HN2.out.cell 0 _ rfl; have n1 := HN2.out.cell 1 _ rfl; have n2 := HN2.out.cell 2 _ rfl; have n3 := HN2.out.cell 3 _ rfl; have n4 := HN2.out.cell 4 _ rfl; have n5 := HN2.out.cell 5 _ rfl))
  all_goals
    generalize hW3 : World.setCell _ _ _ = w3
    have N3 : Box w3 (w.heap.size + 1 + 1) [.int .u64 (a : Int), .int .u64 (b : Int), .int .u64 (c : Int), .string ⟨#[]⟩, .string ⟨#[]⟩, .string (⟨#[]⟩ ++ ⟨#[]⟩ ++ st)] := by
      rw [← hW3]
      exact HN2.out.set 5 (by simp) _
    have Z3 : Box w3 (w.heap.size + 1) [.int .u64 0, .int .u64 0, .int .u64 0, .string ⟨#[]⟩, .string ⟨#[]⟩, .string ⟨#[]⟩] := by
      rw [← hW3]
      exact HZ2.out.far _ (by simp) _
    have B3 : Below w.heap.size w w3 := by
      rw [← hW3]
      exact HB2.out.setCell (by simp; omega) _
    clear hW3
    have HZ3 := Aside0.mk Z3
    have HB3 := Aside0.mk B3
    have m0 := N3.cell 0 _ rfl; have m1 := N3.cell 1 _ rfl; have m2 := N3.cell 2 _ rfl; have m3 := N3.cell 3 _ rfl; have m4 := N3.cell 4 _ rfl; have m5 := N3.cell 5 _ rfl
    have g0 := Z3.cell 0 _ rfl; have g1 := Z3.cell 1 _ rfl; have g2 := Z3.cell 2 _ rfl; have g3 := Z3.cell 3 _ rfl; have g4 := Z3.cell 4 _ rfl; have g5 := Z3.cell 5 _ rfl
    have fz := Z3.free; have hz := Z3.lt
    clear N3 Z3 B3
    go_wp2_with fail
    generalize hW4 : World.setCell _ _ _ = w4
    have Z4 : Box w4 (w.heap.size + 1) [.int .u64 (a : Int), .int .u64 (b : Int), .int .u64 (c : Int), .string ⟨#[]⟩, .string ⟨#[]⟩, .string (⟨#[]⟩ ++ ⟨#[]⟩ ++ st)] := by
      rw [← hW4]
      exact (((((HZ3.out.set 0 (by simp) _).set 1 (by simp) _).set 2 (by simp) _).set 3 (by simp) _).set 4 (by simp) _).set 5 (by simp) _
    have B4 : Below w.heap.size w w4 := by
      have hb := HB3.out
      have := hb.size
      rw [← hW4]
      exact (((((hb.setCell (by simp) _).setCell (by simp) _).setCell (by simp) _).setCell (by simp) _).setCell (by simp) _).setCell (by simp) _
    clear hW4
    have r0 := Z4.cell 0 _ rfl; have r1 := Z4.cell 1 _ rfl; have r2 := Z4.cell 2 _ rfl; have r3 := Z4.cell 3 _ rfl; have r4 := Z4.cell 4 _ rfl; have r5 := Z4.cell 5 _ rfl
    exact bodyPost_ret (v := .agg #[.int .u64 (a : Int), .int .u64 (b : Int), .int .u64 (c : Int), .string ⟨#[]⟩, .string ⟨#[]⟩, .string (⟨#[]⟩ ++ ⟨#[]⟩ ++ st)]) (by simp [results, Tryd.results43, go_sem, r0, r1, r2, r3, r4, r5]) rfl ⟨_, rfl, B4⟩

set_option maxHeartbeats 8000000 in
set_option maxRecDepth 100000 in
theorem inc_rel (a b c : Nat) (p m : ByteArray) (ha : a ≤ 18446744073709551615) (hb : b ≤ 18446744073709551615) (hc : c + 1 ≤ 18446744073709551615) (h1 : bl p = []) (w : World) (hp : Pow w) :
    Calls Tryd.prog 43 #[.agg #[.int .u64 (a : Int), .int .u64 (b : Int), .int .u64 (c : Int), .string p, .string m, .string ⟨#[]⟩]] w (IncRet w a b (c + 1)) := by
  have C1 := Lib.hid (fun W => semver_Version_originalVPrefix.calls (a : Int) b c p m ⟨#[]⟩ ⟨#[]⟩ W (by unfold semver_Version_originalVPrefix.f; rw [if_pos (by rw [toList_bl])]))
  have C2 := Lib.hid (fun W hW => semver_Version_String.calls (a : Int) b ((c : Int) + 1) ⟨#[]⟩ ⟨#[]⟩ ⟨#[]⟩ _ W hW (by rw [show ((c : Int) + 1) = ((c + 1 : Nat) : Int) by omega]; exact string_f a b (c + 1) ⟨#[]⟩ ⟨#[]⟩ ⟨#[]⟩ ha hb hc (by decide) (by decide)))
  have t1 : (p.toList == []) = true := beq_iff_eq.2 (by rw [toList_bl]; exact h1)
  have t2 : (p.toList != []) = false := by rw [bne, t1]; rfl
  have u1 : ((c : Int) == 18446744073709551615) = false := beq_eq_false_iff_ne.2 (by omega)
  have u2 : IntKind.u64.wrap ((c : Int) + 1) = ((c + 1 : Nat) : Int) := by
    have e0 : ∀ x : Int, IntKind.u64.wrap x = x % 18446744073709551616 := fun x => by simp [IntKind.wrap, IntKind.bits, IntKind.signed]
    rw [e0]
    omega
  have hs : (ofL (verText a b (c + 1) (bl ⟨#[]⟩) (bl ⟨#[]⟩))).size ≤ 1000 := by
    have na := digits20 a ha
    have nb := digits20 b hb
    have nc := digits20 (c + 1) hc
    rw [show bl ⟨#[]⟩ = [] from rfl, size_ofL]
    simp only [verText, List.length_append, List.length_cons, List.length_nil, if_true]
    omega
  generalize ofL (verText a b (c + 1) (bl ⟨#[]⟩) (bl ⟨#[]⟩)) = st at C2 hs
  have hs1 : st.size ≤ 9223372036854775807 := by omega
  have hs2 : ((⟨#[]⟩ : ByteArray) ++ (⟨#[]⟩ : ByteArray)).size + st.size ≤ 9223372036854775807 := by rw [show ((⟨#[]⟩ : ByteArray) ++ (⟨#[]⟩ : ByteArray)).size = 0 from rfl]; omega
  have hs3 : 0 + st.size ≤ 9223372036854775807 := by omega
  have HP := Lib.hid hp
  clear hp ha hb hc h1 hs
  go_enter Tryd.func43, Tryd.ntmps43
  go_wp2_with fail
  generalize hW0 : World.alloc (World.alloc (World.alloc w _) _) _ = w0
  have v0 : Box w0 w.heap.size [.int .u64 (a : Int), .int .u64 (b : Int), .int .u64 (c : Int), .string p, .string m, .string ⟨#[]⟩] := by
    rw [← hW0]
    exact (Box.new' _ _ _ _ rfl).below (((Below.refl _ _).alloc (Nat.le_refl _) _).alloc (by simp) _)
  have z0 : Box w0 (w.heap.size + 1) [.int .u64 0, .int .u64 0, .int .u64 0, .string ⟨#[]⟩, .string ⟨#[]⟩, .string ⟨#[]⟩] := by
    rw [← hW0]
    exact (Box.new' _ _ _ _ (by simp)).below ((Below.refl _ _).alloc (Nat.le_refl _) _)
  have n0 : Box w0 (w.heap.size + 1 + 1) [.int .u64 (a : Int), .int .u64 (b : Int), .int .u64 ((c : Int) + 1), .string ⟨#[]⟩, .string ⟨#[]⟩, .string ⟨#[]⟩] := by
    rw [← hW0]
    exact Box.new' _ _ _ _ (by simp)
  have b0 : Below w.heap.size w w0 := by
    rw [← hW0]
    go_grown
  have p0 : Pow w0 := HP.out.below b0
  have HV0 := Aside0.mk v0
  have HZ0 := Aside0.mk z0
  have HN0 := Aside0.mk n0
  have HB0 := Aside0.mk b0
  have HP0 := Aside0.mk p0
  clear v0 z0 n0 b0 p0 hW0
  have a0 := HV0.out.cell 0 _ rfl; have a1 := HV0.out.cell 1 _ rfl; have a2 := HV0.out.cell 2 _ rfl; have a3 := HV0.out.cell 3 _ rfl; have a4 := HV0.out.cell 4 _ rfl; have a5 := HV0.out.cell 5 _ rfl
  have n0 := HN0.out.cell 0 _ rfl; have n1 := HN0.out.cell 1 _ rfl; have n2 := HN0.out.cell 2 _ rfl; have n3 := HN0.out.cell 3 _ rfl; have n4 := HN0.out.cell 4 _ rfl; have n5 := HN0.out.cell 5 _ rfl
  go_region_with (first
    | (go_at_call 60; (with_reducible refine (C1.out _).mono ?_); rintro e w1 ⟨rfl, hd1⟩; have hb1 := undrew hd1; clear hd1; have HV1 := Aside0.mk (HV0.out.below hb1); have HN1 := Aside0.mk (HN0.out.below hb1); have HZ1 := Aside0.mk (HZ0.out.below hb1); have HB1 := Aside0.mk (HB0.out.trans (hb1.mono HB0.out.size)); have HP1 := Aside0.mk (HP0.out.below hb1); clear hb1; have n0 := HN1.out.cell 0 _ rfl; have n1 := HN1.out.cell 1 _ rfl; have n2 := HN1.out.cell 2 _ rfl; have n3 := HN1.out.cell 3 _ rfl; have n4 := HN1.out.cell 4 _ rfl; have n5 := HN1.out.cell 5 _ rfl)
    | (go_at_call 37; (with_reducible refine (C2.out _ HP1.out).mono ?_); rintro e w2 ⟨rfl, hb2⟩; have HN2 := Aside0.mk (HN1.out.below hb2); have HZ2 := Aside0.mk (HZ1.out.below hb2); have HB2 := Aside0.mk (HB1.out.trans (hb2.mono HB1.out.size)); clear hb2; have f2 := HN2.out.free; have n0 := HN2.out.cell 0 _ rfl; have n1 := HN2.out.cell 1 _ rfl; have n2 := HN2.out.cell 2 _ rfl; have n3 := HN2.out.cell 3 _ rfl; have n4 := HN2.out.cell 4 _ rfl; have n5 := HN2.out.cell 5 _ rfl))
  all_goals
    generalize hW3 : World.setCell _ _ _ = w3
    have N3 : Box w3 (w.heap.size + 1 + 1) [.int .u64 (a : Int), .int .u64 (b : Int), .int .u64 ((c : Int) + 1), .string ⟨#[]⟩, .string ⟨#[]⟩, .string (⟨#[]⟩ ++ ⟨#[]⟩ ++ st)] := by
      rw [← hW3]
      exact HN2.out.set 5 (by simp) _
    have Z3 : Box w3 (w.heap.size + 1) [.int .u64 0, .int .u64 0, .int .u64 0, .string ⟨#[]⟩, .string ⟨#[]⟩, .string ⟨#[]⟩] := by
      rw [← hW3]
      exact HZ2.out.far _ (by simp) _
    have B3 : Below w.heap.size w w3 := by
      rw [← hW3]
      exact HB2.out.setCell (by simp; omega) _
    clear hW3
    have HZ3 := Aside0.mk Z3
    have HB3 := Aside0.mk B3
    have m0 := N3.cell 0 _ rfl; have m1 := N3.cell 1 _ rfl; have m2 := N3.cell 2 _ rfl; have m3 := N3.cell 3 _ rfl; have m4 := N3.cell 4 _ rfl; have m5 := N3.cell 5 _ rfl
    have g0 := Z3.cell 0 _ rfl; have g1 := Z3.cell 1 _ rfl; have g2 := Z3.cell 2 _ rfl; have g3 := Z3.cell 3 _ rfl; have g4 := Z3.cell 4 _ rfl; have g5 := Z3.cell 5 _ rfl
    have fz := Z3.free; have hz := Z3.lt
    clear N3 Z3 B3
    go_wp2_with fail
    generalize hW4 : World.setCell _ _ _ = w4
    have Z4 : Box w4 (w.heap.size + 1) [.int .u64 (a : Int), .int .u64 (b : Int), .int .u64 ((c : Int) + 1), .string ⟨#[]⟩, .string ⟨#[]⟩, .string (⟨#[]⟩ ++ ⟨#[]⟩ ++ st)] := by
      rw [← hW4]
      exact (((((HZ3.out.set 0 (by simp) _).set 1 (by simp) _).set 2 (by simp) _).set 3 (by simp) _).set 4 (by simp) _).set 5 (by simp) _
    have B4 : Below w.heap.size w w4 := by
      have hb := HB3.out
      have := hb.size
      rw [← hW4]
      exact (((((hb.setCell (by simp) _).setCell (by simp) _).setCell (by simp) _).setCell (by simp) _).setCell (by simp) _).setCell (by simp) _
    clear hW4
    have r0 := Z4.cell 0 _ rfl; have r1 := Z4.cell 1 _ rfl; have r2 := Z4.cell 2 _ rfl; have r3 := Z4.cell 3 _ rfl; have r4 := Z4.cell 4 _ rfl; have r5 := Z4.cell 5 _ rfl
    exact bodyPost_ret (v := .agg #[.int .u64 (a : Int), .int .u64 (b : Int), .int .u64 ((c : Int) + 1), .string ⟨#[]⟩, .string ⟨#[]⟩, .string (⟨#[]⟩ ++ ⟨#[]⟩ ++ st)]) (by simp [results, Tryd.results43, go_sem, r0, r1, r2, r3, r4, r5]) rfl ⟨_, rfl, B4⟩

end Go.Proofs.YtekmeoemnekmcaaDoor.KX
