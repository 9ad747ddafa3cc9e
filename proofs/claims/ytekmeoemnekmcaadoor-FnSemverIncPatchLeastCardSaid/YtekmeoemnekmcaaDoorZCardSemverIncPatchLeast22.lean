/- The row and the tied card of FnSemverIncPatchLeast, out of its printed walk and its plain law. For every input that the statement lets in. -/
import Derived.Test.YtekmeoemnekmcaaDoorZCardSemverIncPatchLeast6
import Derived.Test.YtekmeoemnekmcaaDoorZCardSemverIncPatchLeast9
import Derived.Test.YtekmeoemnekmcaaDoorZCardSemverIncPatchLeast10
import Derived.Test.YtekmeoemnekmcaaDoorZCardSemverIncPatchLeast16
import Derived.Test.YtekmeoemnekmcaaDoorZCardSemverIncPatchLeast17
import Derived.Test.YtekmeoemnekmcaaDoorZCardSemverIncPatchLeast21
namespace Go.Proofs.YtekmeoemnekmcaaDoor.KX

open Go.RowKit Go.Lib Go.Sort Go.Proofs Go.Proofs.YtekmeoemnekmcaaDoor Go.Proofs.YtekmeoemnekmcaaDoor.Base Go.Proofs.YtekmeoemnekmcaaDoor.L Go.Proofs.YtekmeoemnekmcaaDoor.Bt Go.Proofs.YtekmeoemnekmcaaDoor.PX

open Go.Proofs.YtekmeoemnekmcaaDoorW.PrintWords Go.Proofs.YtekmeoemnekmcaaDoorW.PrintLast Go.Proofs.YtekmeoemnekmcaaDoorW.PrintMore

attribute [local go_sem] setCell_drewN alloc_drewN

/-- The version at block g is told by its parts. -/
def PlainRet (w : World) (a b c : Int) (p m : ByteArray) (e : Ending) (w' : World) : Prop := e = .returned (.agg #[.int .u64 a, .int .u64 b, .int .u64 c, .string p, .string m]) ∧ Below w.heap.size w w'

set_option maxHeartbeats 8000000 in
set_option maxRecDepth 100000 in
theorem plainVer (g : Nat) (a b c : Int) (p m o : ByteArray) (w : World) (hv : At w g [.int .u64 a, .int .u64 b, .int .u64 c, .string p, .string m, .string o]) :
    Calls Tryd.prog 44 #[.pointer (some ⟨g, 0, none⟩)] w (PlainRet w a b c p m) := by
  have C1 := Lib.hid (fun W => semver_Version_Major.calls a b c p m o _ W rfl)
  have C2 := Lib.hid (fun W => semver_Version_Minor.calls a b c p m o _ W rfl)
  have C3 := Lib.hid (fun W => semver_Version_Patch.calls a b c p m o _ W rfl)
  have C4 := Lib.hid (fun W => semver_Version_Prerelease.calls a b c p m o _ W rfl)
  have C5 := Lib.hid (fun W => semver_Version_Metadata.calls a b c p m o _ W rfl)
  have HV := Aside0.mk hv
  have h0 := hv.cell 0 _ rfl; have h1 := hv.cell 1 _ rfl; have h2 := hv.cell 2 _ rfl; have h3 := hv.cell 3 _ rfl; have h4 := hv.cell 4 _ rfl; have h5 := hv.cell 5 _ rfl
  have hl := hv.lt
  clear hv
  go_enter Tryd.func44, Tryd.ntmps44
  go_wp2_with fail
  generalize hW0 : World.alloc w _ = w0
  have v0 : At w0 g [.int .u64 a, .int .u64 b, .int .u64 c, .string p, .string m, .string o] := by
    rw [← hW0]
    exact HV.out.alloc _
  have z0 : Box w0 w.heap.size [.int .u64 0, .int .u64 0, .int .u64 0, .string ⟨#[]⟩, .string ⟨#[]⟩] := by
    rw [← hW0]
    exact Box.new' _ _ _ _ rfl
  have b0 : Below w.heap.size w w0 := by
    rw [← hW0]
    go_grown
  have HV0 := Aside0.mk v0
  have HZ0 := Aside0.mk z0
  have HB0 := Aside0.mk b0
  clear v0 z0 b0 hW0 h0 h1 h2 h3 h4 h5
  go_region_held3 (fun W' => W'.cell? ⟨g, 0, none⟩ = some (.int .u64 a) ∧ W'.cell? ⟨g, 1, none⟩ = some (.int .u64 b) ∧ W'.cell? ⟨g, 2, none⟩ = some (.int .u64 c) ∧ W'.cell? ⟨g, 3, none⟩ = some (.string p) ∧ W'.cell? ⟨g, 4, none⟩ = some (.string m) ∧ W'.cell? ⟨g, 5, none⟩ = some (.string o)) (first | (with_reducible exact HV0.out.six) | (with_reducible exact HV5.out.six) | (with_reducible exact HV4.out.six) | (with_reducible exact HV3.out.six) | (with_reducible exact HV2.out.six) | (with_reducible exact HV1.out.six) | (with_reducible exact HV0.out.drew.six) | (with_reducible exact (((((HV5.out.far _ (by simp; omega) _).far _ (by simp; omega) _).far _ (by simp; omega) _).far _ (by simp; omega) _).far _ (by simp; omega) _).six) | (trace_state; go_keep)) (first
    | (go_at_call 61; (with_reducible refine (C1.out _).mono ?_); rintro e w1 ⟨rfl, hd1⟩; have hb1 := undrew hd1; clear hd1; have HV1 := Aside0.mk (HV0.out.below hb1); have HZ1 := Aside0.mk (HZ0.out.below hb1); have HB1 := Aside0.mk (HB0.out.trans (hb1.mono HB0.out.size)); clear hb1)
    | (go_at_call 62; (with_reducible refine (C2.out _).mono ?_); rintro e w2 ⟨rfl, hb2⟩; have HV2 := Aside0.mk (HV1.out.below hb2); have HZ2 := Aside0.mk (HZ1.out.below hb2); have HB2 := Aside0.mk (HB1.out.trans (hb2.mono HB1.out.size)); clear hb2)
    | (go_at_call 63; (with_reducible refine (C3.out _).mono ?_); rintro e w3 ⟨rfl, hb3⟩; have HV3 := Aside0.mk (HV2.out.below hb3); have HZ3 := Aside0.mk (HZ2.out.below hb3); have HB3 := Aside0.mk (HB2.out.trans (hb3.mono HB2.out.size)); clear hb3)
    | (go_at_call 64; (with_reducible refine (C4.out _).mono ?_); rintro e w4 ⟨rfl, hb4⟩; have HV4 := Aside0.mk (HV3.out.below hb4); have HZ4 := Aside0.mk (HZ3.out.below hb4); have HB4 := Aside0.mk (HB3.out.trans (hb4.mono HB3.out.size)); clear hb4)
    | (go_at_call 65; (with_reducible refine (C5.out _).mono ?_); rintro e w5 ⟨rfl, hb5⟩; have HV5 := Aside0.mk (HV4.out.below hb5); have HZ5 := Aside0.mk (HZ4.out.below hb5); have HB5 := Aside0.mk (HB4.out.trans (hb5.mono HB4.out.size)); clear hb5; have e0 := HZ5.out.cell 0 _ rfl; have e1 := HZ5.out.cell 1 _ rfl; have e2 := HZ5.out.cell 2 _ rfl; have e3 := HZ5.out.cell 3 _ rfl; have e4 := HZ5.out.cell 4 _ rfl; have fz := HZ5.out.free; have hz := HZ5.out.lt))
  all_goals
    clear e0 e1 e2 e3 e4 fz hz
    generalize hW6 : World.setCell _ _ _ = w6
    have Z6 : Box w6 w.heap.size [.int .u64 a, .int .u64 b, .int .u64 c, .string p, .string m] := by
      rw [← hW6]
      exact ((((HZ5.out.set 0 (by simp) _).set 1 (by simp) _).set 2 (by simp) _).set 3 (by simp) _).set 4 (by simp) _
    have b6 : Below w.heap.size w w6 := by
      have hb := HB5.out
      have := hb.size
      rw [← hW6]
      exact ((((hb.setCell (by simp) _).setCell (by simp) _).setCell (by simp) _).setCell (by simp) _).setCell (by simp) _
    clear hW6
    have r0 := Z6.cell 0 _ rfl; have r1 := Z6.cell 1 _ rfl; have r2 := Z6.cell 2 _ rfl; have r3 := Z6.cell 3 _ rfl; have r4 := Z6.cell 4 _ rfl
    go_wp2_with fail
    exact bodyPost_ret (v := .agg #[.int .u64 a, .int .u64 b, .int .u64 c, .string p, .string m]) (by simp [results, Tryd.results44, go_sem, r0, r1, r2, r3, r4]) rfl ⟨rfl, b6⟩

set_option maxHeartbeats 8000000 in
set_option maxRecDepth 100000 in
theorem implInc (a b c d : Nat) (p m : ByteArray) (hinc : ∀ W, Pow W → Calls Tryd.prog 43 #[.agg #[.int .u64 (a : Int), .int .u64 (b : Int), .int .u64 (c : Int), .string p, .string m, .string ⟨#[]⟩]] W (IncRet W a b d)) (w : World) (hp : Pow w) :
    Calls Tryd.prog 27 #[.agg #[.int .u64 (a : Int), .int .u64 (b : Int), .int .u64 (c : Int), .string p, .string m]] w (PlainRet w a b d ⟨#[]⟩ ⟨#[]⟩) := by
  have C0 := Lib.hid (fun W => version a b c p m W)
  have C1 := Lib.hid hinc
  have C2 := Lib.hid (fun g o W h => plainVer g (a : Int) b d ⟨#[]⟩ ⟨#[]⟩ o W h)
  have HP := Lib.hid hp
  clear hp hinc
  go_enter Tryd.func27, Tryd.ntmps27
  go_wp2_with fail
  generalize hW0 : World.alloc (World.alloc w _) _ = w0
  have z0 : Box w0 (w.heap.size + 1) [.int .u64 0, .int .u64 0, .int .u64 0, .string ⟨#[]⟩, .string ⟨#[]⟩] := by
    rw [← hW0]
    exact Box.new' _ _ _ _ (by simp)
  have b0 : Below w.heap.size w w0 := by
    rw [← hW0]
    go_grown
  have HZ0 := Aside0.mk z0
  have HB0 := Aside0.mk b0
  clear z0 b0 hW0
  with_reducible refine (C0.out _).mono ?_
  rintro e w1 ⟨g, rfl, hv1, hl1, hb1⟩
  have HZ1 := Aside0.mk (HZ0.out.below hb1)
  have HB1 := Aside0.mk (HB0.out.trans (hb1.mono HB0.out.size))
  have HP1 := Aside0.mk (HP.out.below HB1.out)
  clear hb1
  obtain ⟨h0, h1, h2, h3, h4, h5⟩ := hv1
  go_wp2_with fail
  clear h0 h1 h2 h3 h4 h5
  with_reducible refine (C1.out _ HP1.out).mono ?_
  rintro e w2 ⟨og, rfl, hb2⟩
  have HZ2 := Aside0.mk (HZ1.out.below hb2)
  have HB2 := Aside0.mk (HB1.out.trans (hb2.mono HB1.out.size))
  clear hb2
  go_wp2_with fail
  with_reducible refine (C2.out _ og _ (At.new _ _ _ _ rfl)).mono ?_
  rintro e w3 ⟨rfl, hb3⟩
  have hb := ((Below.refl w2.heap.size w2).alloc (Nat.le_refl _) _).trans (hb3.mono (by simp))
  have HZ3 := Aside0.mk (HZ2.out.below hb)
  have HB3 := Aside0.mk (HB2.out.trans (hb.mono HB2.out.size))
  clear hb3 hb
  have e0 := HZ3.out.cell 0 _ rfl; have e1 := HZ3.out.cell 1 _ rfl; have e2 := HZ3.out.cell 2 _ rfl; have e3 := HZ3.out.cell 3 _ rfl; have e4 := HZ3.out.cell 4 _ rfl
  have fz := HZ3.out.free; have hz := HZ3.out.lt
  go_wp2_with fail
  clear e0 e1 e2 e3 e4 fz hz
  generalize hW4 : World.setCell _ _ _ = w4
  have Z4 : Box w4 (w.heap.size + 1) [.int .u64 (a : Int), .int .u64 (b : Int), .int .u64 (d : Int), .string ⟨#[]⟩, .string ⟨#[]⟩] := by
    rw [← hW4]
    exact ((((HZ3.out.set 0 (by simp) _).set 1 (by simp) _).set 2 (by simp) _).set 3 (by simp) _).set 4 (by simp) _
  have b4 : Below w.heap.size w w4 := by
    have hb := HB3.out
    have := hb.size
    rw [← hW4]
    exact ((((hb.setCell (by simp) _).setCell (by simp) _).setCell (by simp) _).setCell (by simp) _).setCell (by simp) _
  clear hW4
  have r0 := Z4.cell 0 _ rfl; have r1 := Z4.cell 1 _ rfl; have r2 := Z4.cell 2 _ rfl; have r3 := Z4.cell 3 _ rfl; have r4 := Z4.cell 4 _ rfl
  exact bodyPost_ret (v := .agg #[.int .u64 (a : Int), .int .u64 (b : Int), .int .u64 (d : Int), .string ⟨#[]⟩, .string ⟨#[]⟩]) (by simp [results, Tryd.results27, go_sem, r0, r1, r2, r3, r4]) rfl ⟨rfl, b4⟩

end Go.Proofs.YtekmeoemnekmcaaDoor.KX
namespace Go.Proofs.YtekmeoemnekmcaaDoor.PX

open Go Go.Proofs Go.RowKit Go.Lib Go.Sort Go.Proofs.YtekmeoemnekmcaaDoor Go.Proofs.YtekmeoemnekmcaaDoor.Base Go.Proofs.YtekmeoemnekmcaaDoor.Bt Go.Proofs.YtekmeoemnekmcaaDoor.KX

def impl_VersionIncPatch.f (a0 a1 a2 : Int) (a3 _ : ByteArray) : Option (Int × Int × Int × ByteArray × ByteArray) :=
  if (0 ≤ a0 ∧ a0 ≤ 18446744073709551615) ∧ (0 ≤ a1 ∧ a1 ≤ 18446744073709551615) ∧ (0 ≤ a2 ∧ a2 ≤ 18446744073709551615) then
    (if a3.toList = [] then (if a2 + 1 ≤ 18446744073709551615 then some (a0, a1, a2 + 1, ⟨#[]⟩, ⟨#[]⟩) else none) else some (a0, a1, a2, ⟨#[]⟩, ⟨#[]⟩))
  else none

theorem impl_VersionIncPatch.calls (a0 a1 a2 : Int) (a3 a4 : ByteArray) (r1 r2 r3 : Int) (r4 r5 : ByteArray) (w : World) (hPow : Pow w) (h : impl_VersionIncPatch.f a0 a1 a2 a3 a4 = some (r1, r2, r3, r4, r5)) :
    Calls Tryd.prog 27 #[.agg #[.int .u64 a0, .int .u64 a1, .int .u64 a2, .string a3, .string a4]] w fun e w' => e = .returned (.agg #[.int .u64 r1, .int .u64 r2, .int .u64 r3, .string r4, .string r5]) ∧ Below w.heap.size w w' := by
  unfold impl_VersionIncPatch.f at h
  split at h
  · rename_i hb
    obtain ⟨⟨p0, q0⟩, ⟨p1, q1⟩, ⟨p2, q2⟩⟩ := hb
    obtain ⟨a, rfl⟩ := Int.eq_ofNat_of_zero_le p0
    obtain ⟨b, rfl⟩ := Int.eq_ofNat_of_zero_le p1
    obtain ⟨c, rfl⟩ := Int.eq_ofNat_of_zero_le p2
    split at h
    · rename_i hp
      split at h
      · rename_i hc
        obtain ⟨rfl, rfl, rfl, rfl, rfl⟩ : (a : Int) = r1 ∧ (b : Int) = r2 ∧ (c : Int) + 1 = r3 ∧ (⟨#[]⟩ : ByteArray) = r4 ∧ (⟨#[]⟩ : ByteArray) = r5 := by simpa using h
        exact implInc a b c (c + 1) a3 a4 (fun W hW => inc_rel a b c a3 a4 (by omega) (by omega) (by omega) (by rw [← toList_bl]; exact hp) W hW) w hPow
      · cases h
    · rename_i hp
      obtain ⟨rfl, rfl, rfl, rfl, rfl⟩ : (a : Int) = r1 ∧ (b : Int) = r2 ∧ (c : Int) = r3 ∧ (⟨#[]⟩ : ByteArray) = r4 ∧ (⟨#[]⟩ : ByteArray) = r5 := by simpa using h
      exact implInc a b c c a3 a4 (fun W hW => inc_pre a b c a3 a4 (by omega) (by omega) (by omega) (by rw [← toList_bl]; exact hp) W hW) w hPow
  · cases h

end Go.Proofs.YtekmeoemnekmcaaDoor.PX
namespace Go.Proofs.YtekmeoemnekmcaaDoor.PX

open Go.RowKit Go.Proofs.YtekmeoemnekmcaaDoorW.PrintWords Go.Proofs.YtekmeoemnekmcaaDoorW.PrintLast Go.Proofs.YtekmeoemnekmcaaDoorW.PrintMore

attribute [local go_sem] max2_int min2_int max_two min_two max_three min_three max_four min_four   -- for this text's walks alone

set_option linter.unusedVariables false

set_option linter.unusedSimpArgs false

mutual
def laws_FnSemverIncPatchLeast.j0 : Nat → Bool → Int → Int → Int → ByteArray → ByteArray → Int → Int → Int → ByteArray → ByteArray → Option (Bool)
  | 0, _, _, _, _, _, _, _, _, _, _, _ => none
  | k + 1, x13, x171000, x171001, x171002, x171003, x171004, x172000, x172001, x172002, x172003, x172004 => if x13 = true then (some true) else ((spec_Bare.f x172000 x172001 x172002 x172003 x172004).bind fun bt174 => ((laws_svGood.f k (([(⟨x171000, x171001, x171002, x171003, x171004⟩ : S28)] : List (S28)))).bind fun t182 => (if t182 = true then ((spec_Plain.f k x171000 x171001 x171002 x171003 x171004).bind fun t183 => (laws_FnSemverIncPatchLeast.j1 k (!t183) x171000 x171001 x171002 x171003 x171004 bt174.1 bt174.2.1 bt174.2.2.1 bt174.2.2.2.1 bt174.2.2.2.2)) else (laws_FnSemverIncPatchLeast.j1 k true x171000 x171001 x171002 x171003 x171004 bt174.1 bt174.2.1 bt174.2.2.1 bt174.2.2.2.1 bt174.2.2.2.2))))
def laws_FnSemverIncPatchLeast.j1 : Nat → Bool → Int → Int → Int → ByteArray → ByteArray → Int → Int → Int → ByteArray → ByteArray → Option (Bool)
  | 0, _, _, _, _, _, _, _, _, _, _, _ => none
  | k + 1, x24, x171000, x171001, x171002, x171003, x171004, x172000, x172001, x172002, x172003, x172004 => if x24 = true then (some true) else ((impl_VersionIncPatch.f x171000 x171001 x171002 x171003 x171004).bind fun bt184 => ((impl_VersionLess.f x171000 x171001 x171002 x171003 x171004 bt184.1 bt184.2.1 bt184.2.2.1 bt184.2.2.2.1 bt184.2.2.2.2).bind fun t190 => (if t190 = true then ((impl_VersionLess.f x171000 x171001 x171002 x171003 x171004 x172000 x172001 x172002 x172003 x172004).bind fun t191 => ((impl_VersionLessEqual.f bt184.1 bt184.2.1 bt184.2.2.1 bt184.2.2.2.1 bt184.2.2.2.2 x172000 x172001 x172002 x172003 x172004).bind fun t192 => (some (t191 == t192)))) else (some false))))
end

def laws_FnSemverIncPatchLeast.f (k : Nat) (a0_0 : Int) (a0_1 : Int) (a0_2 : Int) (a0_3 : ByteArray) (a0_4 : ByteArray) (a1_0 : Int) (a1_1 : Int) (a1_2 : Int) (a1_3 : ByteArray) (a1_4 : ByteArray) : Option (Bool) := (laws_zzFits14.f a0_0 a0_1 a0_2 a0_3 a0_4).bind fun t172 => (if t172 = true then ((laws_zzFits14.f a1_0 a1_1 a1_2 a1_3 a1_4).bind fun t173 => (laws_FnSemverIncPatchLeast.j0 k (!t173) a0_0 a0_1 a0_2 a0_3 a0_4 a1_0 a1_1 a1_2 a1_3 a1_4)) else (laws_FnSemverIncPatchLeast.j0 k true a0_0 a0_1 a0_2 a0_3 a0_4 a1_0 a1_1 a1_2 a1_3 a1_4))

theorem laws_FnSemverIncPatchLeast.mono_l : ∀ k, (∀ y0 y1 y2 y3 y4 y5 y6 y7 y8 y9 y10, LeO (laws_FnSemverIncPatchLeast.j0 k y0 y1 y2 y3 y4 y5 y6 y7 y8 y9 y10) (laws_FnSemverIncPatchLeast.j0 (k + 1) y0 y1 y2 y3 y4 y5 y6 y7 y8 y9 y10)) ∧ (∀ y0 y1 y2 y3 y4 y5 y6 y7 y8 y9 y10, LeO (laws_FnSemverIncPatchLeast.j1 k y0 y1 y2 y3 y4 y5 y6 y7 y8 y9 y10) (laws_FnSemverIncPatchLeast.j1 (k + 1) y0 y1 y2 y3 y4 y5 y6 y7 y8 y9 y10))
  | 0 => ⟨fun _ _ _ _ _ _ _ _ _ _ _ r h => by simp [laws_FnSemverIncPatchLeast.j0] at h, fun _ _ _ _ _ _ _ _ _ _ _ r h => by simp [laws_FnSemverIncPatchLeast.j1] at h⟩
  | k + 1 => by
    obtain ⟨ih0, ih1⟩ := laws_FnSemverIncPatchLeast.mono_l k
    refine ⟨?_, ?_⟩
    · intro y0 y1 y2 y3 y4 y5 y6 y7 y8 y9 y10
      unfold laws_FnSemverIncPatchLeast.j0
      repeat' first
      | (with_reducible exact ih0 _ _ _ _ _ _ _ _ _ _ _)
      | (with_reducible exact ih1 _ _ _ _ _ _ _ _ _ _ _)
      | (with_reducible exact laws_svGood.mono _ _)
      | (with_reducible exact spec_Plain.mono _ _ _ _ _ _)
      | (with_reducible exact LeO.refl _)
      | (with_reducible exact LeO.none _)
      | (with_reducible refine LeO.ite ?_ ?_)
      | (with_reducible refine LeO.bind ?_ (fun _ => ?_))
      | exact ih0 _ _ _ _ _ _ _ _ _ _ _
      | exact ih1 _ _ _ _ _ _ _ _ _ _ _
      | exact laws_svGood.mono _ _
      | exact spec_Plain.mono _ _ _ _ _ _
      | exact LeO.none _
      | refine LeO.ite ?_ ?_
      | refine LeO.bind ?_ (fun _ => ?_)
    · intro y0 y1 y2 y3 y4 y5 y6 y7 y8 y9 y10
      unfold laws_FnSemverIncPatchLeast.j1
      repeat' first
      | (with_reducible exact ih0 _ _ _ _ _ _ _ _ _ _ _)
      | (with_reducible exact ih1 _ _ _ _ _ _ _ _ _ _ _)
      | (with_reducible exact laws_svGood.mono _ _)
      | (with_reducible exact spec_Plain.mono _ _ _ _ _ _)
      | (with_reducible exact LeO.refl _)
      | (with_reducible exact LeO.none _)
      | (with_reducible refine LeO.ite ?_ ?_)
      | (with_reducible refine LeO.bind ?_ (fun _ => ?_))
      | exact ih0 _ _ _ _ _ _ _ _ _ _ _
      | exact ih1 _ _ _ _ _ _ _ _ _ _ _
      | exact laws_svGood.mono _ _
      | exact spec_Plain.mono _ _ _ _ _ _
      | exact LeO.none _
      | refine LeO.ite ?_ ?_
      | refine LeO.bind ?_ (fun _ => ?_)

theorem laws_FnSemverIncPatchLeast.mono : ∀ a0 a1 a2 a3 a4 a5 a6 a7 a8 a9 k, LeO (laws_FnSemverIncPatchLeast.f k a0 a1 a2 a3 a4 a5 a6 a7 a8 a9) (laws_FnSemverIncPatchLeast.f (k + 1) a0 a1 a2 a3 a4 a5 a6 a7 a8 a9) := by
  intro a0 a1 a2 a3 a4 a5 a6 a7 a8 a9 k
  obtain ⟨ih0, ih1⟩ := laws_FnSemverIncPatchLeast.mono_l k
  unfold laws_FnSemverIncPatchLeast.f
  repeat' first
      | (with_reducible exact ih0 _ _ _ _ _ _ _ _ _ _ _)
      | (with_reducible exact ih1 _ _ _ _ _ _ _ _ _ _ _)
      | (with_reducible exact laws_svGood.mono _ _)
      | (with_reducible exact spec_Plain.mono _ _ _ _ _ _)
      | (with_reducible exact LeO.refl _)
      | (with_reducible exact LeO.none _)
      | (with_reducible refine LeO.ite ?_ ?_)
      | (with_reducible refine LeO.bind ?_ (fun _ => ?_))
      | exact ih0 _ _ _ _ _ _ _ _ _ _ _
      | exact ih1 _ _ _ _ _ _ _ _ _ _ _
      | exact laws_svGood.mono _ _
      | exact spec_Plain.mono _ _ _ _ _ _
      | exact LeO.none _
      | refine LeO.ite ?_ ?_
      | refine LeO.bind ?_ (fun _ => ?_)

def laws_FnSemverIncPatchLeast.T7 : Bool × List (List Nat × List Nat) := (true, [([], []), ([], []), ([0, 1], [0, 1]), ([2, 2], [2]), ([3], [3]), ([3], [3]), ([4, 5, 3, 3], [3, 4, 5]), ([3], [3]), ([3], [3]), ([7, 8, 6, 3], [3, 7, 8]), ([6, 9, 3], [3, 6, 9]), ([3, 10], [3, 10]), ([11, 9, 0, 1, 2, 3, 4, 5, 6, 7, 8, 9, 10, 11], [11])])

def laws_FnSemverIncPatchLeast.B7 : List Nat := [0, 0, 3, 7, 15, 15, 63, 15, 15, 511, 1023, 2047, 4095]

theorem laws_FnSemverIncPatchLeast.tab7 : rtab .any (opsOf Tryd.f8 7) = laws_FnSemverIncPatchLeast.T7 := by kernel_rfl

theorem laws_FnSemverIncPatchLeast.bits7 : waitsOk laws_FnSemverIncPatchLeast.T7.2 laws_FnSemverIncPatchLeast.B7 = true := by kernel_rfl

set_option maxHeartbeats 80000000 in
set_option maxRecDepth 100000 in
theorem laws_FnSemverIncPatchLeast.calls (k : Nat) (a0_0 : Int) (a0_1 : Int) (a0_2 : Int) (a0_3 : ByteArray) (a0_4 : ByteArray) (a1_0 : Int) (a1_1 : Int) (a1_2 : Int) (a1_3 : ByteArray) (a1_4 : ByteArray) (r : Bool) (w : World) (hPow : Pow w) (hStd : Std w) (h : laws_FnSemverIncPatchLeast.f k a0_0 a0_1 a0_2 a0_3 a0_4 a1_0 a1_1 a1_2 a1_3 a1_4 = some r) :
    Calls Tryd.prog 8 #[.agg #[.int .u64 a0_0, .int .u64 a0_1, .int .u64 a0_2, .string a0_3, .string a0_4], .agg #[.int .u64 a1_0, .int .u64 a1_1, .int .u64 a1_2, .string a1_3, .string a1_4]] w fun e w' => e = .returned (.bool r) ∧ Below w.heap.size w w' := by
  have hu28 := Tryd.underlying28
  have HPow := Aside0.mk hPow
  clear hPow
  have HStd := Aside0.mk hStd
  clear hStd
  have HB := Aside0.mk (Below.refl w.heap.size w)
  have H : ((laws_zzFits14.f a0_0 a0_1 a0_2 a0_3 a0_4).bind fun t172 => (if t172 = true then ((laws_zzFits14.f a1_0 a1_1 a1_2 a1_3 a1_4).bind fun t173 => (laws_FnSemverIncPatchLeast.j0 k (!t173) a0_0 a0_1 a0_2 a0_3 a0_4 a1_0 a1_1 a1_2 a1_3 a1_4)) else (laws_FnSemverIncPatchLeast.j0 k true a0_0 a0_1 a0_2 a0_3 a0_4 a1_0 a1_1 a1_2 a1_3 a1_4))) = some r := h
  clear h
  have HC3 := Aside0.mk H
  clear H
  go_enter Tryd.func8, Tryd.ntmps8
  go_upto_region 1 with (first | ((with_reducible refine gate_dst (N := 2) rfl ?_); refine box_event ?hg (N := 2) ?hd (cs := #[.int .u64 a0_0, .int .u64 a0_1, .int .u64 a0_2, .string a0_3, .string a0_4]) (t := 28) ?hr ?_; (case hd => rfl); (case hg => rfl); (case hr => first | (go_simp; done) | (go_simp; rfl) | (go_simp; simp [u8w]; done)); intro gb170 hg w4 hbox hb; have n0_ := Aside0.mk (below_step (by repeat (first | (with_reducible first | exact HB.out | apply below_alloc | apply pw_below_drewN | apply below_drew1) | exact HB.out)) hb); have n1_ := Aside0.mk (hbox); have n2_ := Aside0.mk ((by rw [hg]; exact (below_size (by repeat (first | (with_reducible first | exact HB.out | apply below_alloc | apply pw_below_drewN | apply below_drew1) | exact HB.out))) : w.heap.size ≤ gb170)); have n3_ := Aside0.mk ((by rw [hg]; exact (below_size (by repeat (first | (with_reducible first | exact HB.out | apply below_alloc | apply pw_below_drewN | apply below_drew1) | exact HB.out))) : w.heap.size ≤ gb170)); clear HB; have HB := n0_; have BK170 := n1_; have GW170 := n2_; have GE170 := n3_; clear n0_ n1_ n2_ n3_; clear hb hbox hg) | ((with_reducible refine gate_dst (N := 3) rfl ?_); refine box_event ?hg (N := 3) ?hd (cs := #[.int .u64 a1_0, .int .u64 a1_1, .int .u64 a1_2, .string a1_3, .string a1_4]) (t := 28) ?hr ?_; (case hd => rfl); (case hg => rfl); (case hr => first | (go_simp; done) | (go_simp; rfl) | (go_simp; simp [u8w]; done)); intro gb171 hg w5 hbox hb; have n0_ := Aside0.mk (blk_below (g := gb170) (o := .cells #[.int .u64 a0_0, .int .u64 a0_1, .int .u64 a0_2, .string a0_3, .string a0_4] 28 (0, 0)) (by (with_reducible repeat (first | refine blk_drewN ?_ _ | refine blk_drew ?_ | refine blk_alloc ?_ _)); exact BK170.out) hb); have n1_ := Aside0.mk (below_step (by repeat (first | (with_reducible first | exact HB.out | apply below_alloc | apply pw_below_drewN | apply below_drew1 | refine below_set ?_ GE170.out) | exact HB.out)) hb); have n2_ := Aside0.mk (hbox); have n3_ := Aside0.mk ((by rw [hg]; exact (below_size (by repeat (first | (with_reducible first | exact HB.out | apply below_alloc | apply pw_below_drewN | apply below_drew1 | refine below_set ?_ GE170.out) | exact HB.out))) : w.heap.size ≤ gb171)); have n4_ := Aside0.mk ((by rw [hg]; exact (below_size (by repeat (first | (with_reducible first | exact HB.out | apply below_alloc | apply pw_below_drewN | apply below_drew1 | refine below_set ?_ GE170.out) | exact HB.out))) : w.heap.size ≤ gb171)); have n5_ := Aside0.mk ((by rw [hg]; exact Nat.ne_of_lt (blk_lt (g := gb170) (o := .cells #[.int .u64 a0_0, .int .u64 a0_1, .int .u64 a0_2, .string a0_3, .string a0_4] 28 (0, 0)) (by (with_reducible repeat (first | refine blk_drewN ?_ _ | refine blk_drew ?_ | refine blk_alloc ?_ _)); exact BK170.out)) : gb170 ≠ gb171)); have n6_ := Aside0.mk ((by rw [hg]; exact Nat.ne_of_gt (blk_lt (g := gb170) (o := .cells #[.int .u64 a0_0, .int .u64 a0_1, .int .u64 a0_2, .string a0_3, .string a0_4] 28 (0, 0)) (by (with_reducible repeat (first | refine blk_drewN ?_ _ | refine blk_drew ?_ | refine blk_alloc ?_ _)); exact BK170.out)) : gb171 ≠ gb170)); clear BK170; clear HB; have BK170 := n0_; have HB := n1_; have BK171 := n2_; have GW171 := n3_; have GE171 := n4_; have NB170_171 := n5_; have NB171_170 := n6_; clear n0_ n1_ n2_ n3_ n4_ n5_ n6_; clear hb hbox hg))
  (try simp only [Act.put, List.setIfInBounds_toArray, List.set_cons_zero, List.set_cons_succ])
  go_cut [13] (fun v13 wc => ∃ (kq : Nat) (x13_2 : Bool), v13 = .bool x13_2 ∧ Aside0 (laws_FnSemverIncPatchLeast.j0 kq x13_2 a0_0 a0_1 a0_2 a0_3 a0_4 a1_0 a1_1 a1_2 a1_3 a1_4 = some r) ∧ Aside0 (kq ≤ k) ∧ Aside0 (wc.heap[gb170]? = some (.cells #[.int .u64 a0_0, .int .u64 a0_1, .int .u64 a0_2, .string a0_3, .string a0_4] 28 (0, 0))) ∧ Aside0 (wc.heap[gb171]? = some (.cells #[.int .u64 a1_0, .int .u64 a1_1, .int .u64 a1_2, .string a1_3, .string a1_4] 28 (0, 0))) ∧ Aside0 (Below w.heap.size w wc))
  case first =>
    have H := HC3.out
    clear HC3
    replace H := Option.bind_eq_some_iff.mp H
    obtain ⟨t172, A60, H⟩ := H
    replace H : (if t172 = true then ((laws_zzFits14.f a1_0 a1_1 a1_2 a1_3 a1_4).bind fun t173 => (laws_FnSemverIncPatchLeast.j0 k (!t173) a0_0 a0_1 a0_2 a0_3 a0_4 a1_0 a1_1 a1_2 a1_3 a1_4)) else (laws_FnSemverIncPatchLeast.j0 k true a0_0 a0_1 a0_2 a0_3 a0_4 a1_0 a1_1 a1_2 a1_3 a1_4)) = some r := H
    have A6 := Aside0.mk A60
    clear A60
    by_cases c7 : t172 = true
    · subst c7
      have H1 : ((laws_zzFits14.f a1_0 a1_1 a1_2 a1_3 a1_4).bind fun t173 => (laws_FnSemverIncPatchLeast.j0 k (!t173) a0_0 a0_1 a0_2 a0_3 a0_4 a1_0 a1_1 a1_2 a1_3 a1_4)) = some r := by rw [if_pos rfl] at H; exact H
      clear H
      have H := H1
      clear H1
      replace H := Option.bind_eq_some_iff.mp H
      obtain ⟨t173, A80, H⟩ := H
      replace H : (laws_FnSemverIncPatchLeast.j0 k (!t173) a0_0 a0_1 a0_2 a0_3 a0_4 a1_0 a1_1 a1_2 a1_3 a1_4) = some r := H
      have A8 := Aside0.mk A80
      clear A80
      have H' := Aside0.mk H
      clear H
      have hnb9 := NB170_171.out
      have hnc9 := NB171_170.out
      have hcz10_0 : w5.cell? ⟨gb170, 0, none⟩ = some (.int .u64 a0_0) := (blk_cell BK170.out 0).trans rfl
      have hcz10_1 : w5.cell? ⟨gb170, 1, none⟩ = some (.int .u64 a0_1) := (blk_cell BK170.out 1).trans rfl
      have hcz10_2 : w5.cell? ⟨gb170, 2, none⟩ = some (.int .u64 a0_2) := (blk_cell BK170.out 2).trans rfl
      have hcz10_3 : w5.cell? ⟨gb170, 3, none⟩ = some (.string a0_3) := (blk_cell BK170.out 3).trans rfl
      have hcz10_4 : w5.cell? ⟨gb170, 4, none⟩ = some (.string a0_4) := (blk_cell BK170.out 4).trans rfl
      have hfz10_0 := blk_frozen BK170.out 0
      have hfz10_1 := blk_frozen BK170.out 1
      have hfz10_2 := blk_frozen BK170.out 2
      have hfz10_3 := blk_frozen BK170.out 3
      have hfz10_4 := blk_frozen BK170.out 4
      go_wp2_with (first | ((with_reducible refine gate_callee (f := 16) rfl ?_); refine goesL_ (some 7) rfl rfl Tryd.func16 (by kernel_rfl) rfl #[.agg #[.int .u64 a0_0, .int .u64 a0_1, .int .u64 a0_2, .string a0_3, .string a0_4]] rfl (by (try simp only [List.map_toArray, List.map_cons, List.map_nil]); first | done | rfl | (simp only [List.length_drop, List.length_take]; rfl)) ?_; (with_reducible refine (laws_zzFits14.calls a0_0 a0_1 a0_2 a0_3 a0_4 true _ A6.out).mono ?_); rintro e w11 ⟨rfl, hb⟩; refine ⟨_, rfl, ?_⟩; have n0_ := Aside0.mk (blk_below (g := gb170) (o := .cells #[.int .u64 a0_0, .int .u64 a0_1, .int .u64 a0_2, .string a0_3, .string a0_4] 28 (0, 0)) (by (with_reducible repeat (first | refine blk_drewN ?_ _ | refine blk_drew ?_ | refine blk_alloc ?_ _)); exact BK170.out) hb); have n1_ := Aside0.mk (blk_below (g := gb171) (o := .cells #[.int .u64 a1_0, .int .u64 a1_1, .int .u64 a1_2, .string a1_3, .string a1_4] 28 (0, 0)) (by (with_reducible repeat (first | refine blk_drewN ?_ _ | refine blk_drew ?_ | refine blk_alloc ?_ _)); exact BK171.out) hb); have n2_ := Aside0.mk (below_step (by repeat (first | (with_reducible first | exact HB.out | apply below_alloc | apply pw_below_drewN | apply below_drew1 | refine below_set ?_ GE170.out | refine below_set ?_ GE171.out) | exact HB.out)) hb); clear BK170; clear BK171; clear HB; have BK170 := n0_; have BK171 := n1_; have HB := n2_; clear n0_ n1_ n2_; (try clear hb); (try clear hb2); (try clear hk); (try clear hi); have hcz12_0 : w11.cell? ⟨gb171, 0, none⟩ = some (.int .u64 a1_0) := (blk_cell BK171.out 0).trans rfl; have hcz12_1 : w11.cell? ⟨gb171, 1, none⟩ = some (.int .u64 a1_1) := (blk_cell BK171.out 1).trans rfl; have hcz12_2 : w11.cell? ⟨gb171, 2, none⟩ = some (.int .u64 a1_2) := (blk_cell BK171.out 2).trans rfl; have hcz12_3 : w11.cell? ⟨gb171, 3, none⟩ = some (.string a1_3) := (blk_cell BK171.out 3).trans rfl; have hcz12_4 : w11.cell? ⟨gb171, 4, none⟩ = some (.string a1_4) := (blk_cell BK171.out 4).trans rfl; have hfz12_0 := blk_frozen BK171.out 0; have hfz12_1 := blk_frozen BK171.out 1; have hfz12_2 := blk_frozen BK171.out 2; have hfz12_3 := blk_frozen BK171.out 3; have hfz12_4 := blk_frozen BK171.out 4) | (go_at_call 16; (with_reducible refine (laws_zzFits14.calls a1_0 a1_1 a1_2 a1_3 a1_4 t173 _ A8.out).mono ?_); rintro e w13 ⟨rfl, hb⟩; have n0_ := Aside0.mk (blk_below (g := gb170) (o := .cells #[.int .u64 a0_0, .int .u64 a0_1, .int .u64 a0_2, .string a0_3, .string a0_4] 28 (0, 0)) (by (with_reducible repeat (first | refine blk_drewN ?_ _ | refine blk_drew ?_ | refine blk_alloc ?_ _)); exact BK170.out) hb); have n1_ := Aside0.mk (blk_below (g := gb171) (o := .cells #[.int .u64 a1_0, .int .u64 a1_1, .int .u64 a1_2, .string a1_3, .string a1_4] 28 (0, 0)) (by (with_reducible repeat (first | refine blk_drewN ?_ _ | refine blk_drew ?_ | refine blk_alloc ?_ _)); exact BK171.out) hb); have n2_ := Aside0.mk (below_step (by repeat (first | (with_reducible first | exact HB.out | apply below_alloc | apply pw_below_drewN | apply below_drew1 | refine below_set ?_ GE170.out | refine below_set ?_ GE171.out) | exact HB.out)) hb); clear BK170; clear BK171; clear HB; have BK170 := n0_; have BK171 := n1_; have HB := n2_; clear n0_ n1_ n2_; (try clear hb); (try clear hb2); (try clear hk); (try clear hi)))
      go_meet
      case rel => exact ⟨_, (!t173), (by first | rfl | (simp; done) | (simp [*]; done)), H', ⟨by first | omega | exact Nat.le_refl _⟩, ⟨by (with_reducible repeat (first | refine blk_drewN ?_ _ | refine blk_drew ?_ | refine blk_alloc ?_ _)); exact BK170.out⟩, ⟨by (with_reducible repeat (first | refine blk_drewN ?_ _ | refine blk_drew ?_ | refine blk_alloc ?_ _)); exact BK171.out⟩, ⟨by repeat (first | (with_reducible first | exact HB.out | apply below_alloc | apply pw_below_drewN | apply below_drew1 | refine below_set ?_ GE170.out | refine below_set ?_ GE171.out) | exact HB.out)⟩⟩
    · replace c7 := Bool.eq_false_iff.mpr c7
      subst c7
      have H1 : (laws_FnSemverIncPatchLeast.j0 k true a0_0 a0_1 a0_2 a0_3 a0_4 a1_0 a1_1 a1_2 a1_3 a1_4) = some r := by rw [if_neg (show ¬ (false = true) by decide)] at H; exact H
      clear H
      have H := H1
      clear H1
      have H' := Aside0.mk H
      clear H
      have hnb14 := NB170_171.out
      have hnc14 := NB171_170.out
      have hcz15_0 : w5.cell? ⟨gb170, 0, none⟩ = some (.int .u64 a0_0) := (blk_cell BK170.out 0).trans rfl
      have hcz15_1 : w5.cell? ⟨gb170, 1, none⟩ = some (.int .u64 a0_1) := (blk_cell BK170.out 1).trans rfl
      have hcz15_2 : w5.cell? ⟨gb170, 2, none⟩ = some (.int .u64 a0_2) := (blk_cell BK170.out 2).trans rfl
      have hcz15_3 : w5.cell? ⟨gb170, 3, none⟩ = some (.string a0_3) := (blk_cell BK170.out 3).trans rfl
      have hcz15_4 : w5.cell? ⟨gb170, 4, none⟩ = some (.string a0_4) := (blk_cell BK170.out 4).trans rfl
      have hfz15_0 := blk_frozen BK170.out 0
      have hfz15_1 := blk_frozen BK170.out 1
      have hfz15_2 := blk_frozen BK170.out 2
      have hfz15_3 := blk_frozen BK170.out 3
      have hfz15_4 := blk_frozen BK170.out 4
      go_wp2_with (first | ((with_reducible refine gate_callee (f := 16) rfl ?_); refine goesL_ (some 7) rfl rfl Tryd.func16 (by kernel_rfl) rfl #[.agg #[.int .u64 a0_0, .int .u64 a0_1, .int .u64 a0_2, .string a0_3, .string a0_4]] rfl (by (try simp only [List.map_toArray, List.map_cons, List.map_nil]); first | done | rfl | (simp only [List.length_drop, List.length_take]; rfl)) ?_; (with_reducible refine (laws_zzFits14.calls a0_0 a0_1 a0_2 a0_3 a0_4 false _ A6.out).mono ?_); rintro e w16 ⟨rfl, hb⟩; refine ⟨_, rfl, ?_⟩; have n0_ := Aside0.mk (blk_below (g := gb170) (o := .cells #[.int .u64 a0_0, .int .u64 a0_1, .int .u64 a0_2, .string a0_3, .string a0_4] 28 (0, 0)) (by (with_reducible repeat (first | refine blk_drewN ?_ _ | refine blk_drew ?_ | refine blk_alloc ?_ _)); exact BK170.out) hb); have n1_ := Aside0.mk (blk_below (g := gb171) (o := .cells #[.int .u64 a1_0, .int .u64 a1_1, .int .u64 a1_2, .string a1_3, .string a1_4] 28 (0, 0)) (by (with_reducible repeat (first | refine blk_drewN ?_ _ | refine blk_drew ?_ | refine blk_alloc ?_ _)); exact BK171.out) hb); have n2_ := Aside0.mk (below_step (by repeat (first | (with_reducible first | exact HB.out | apply below_alloc | apply pw_below_drewN | apply below_drew1 | refine below_set ?_ GE170.out | refine below_set ?_ GE171.out) | exact HB.out)) hb); clear BK170; clear BK171; clear HB; have BK170 := n0_; have BK171 := n1_; have HB := n2_; clear n0_ n1_ n2_; (try clear hb); (try clear hb2); (try clear hk); (try clear hi)))
      go_meet
      case rel => exact ⟨_, (true), (by first | rfl | (simp; done) | (simp [*]; done)), H', ⟨by first | omega | exact Nat.le_refl _⟩, ⟨by (with_reducible repeat (first | refine blk_drewN ?_ _ | refine blk_drew ?_ | refine blk_alloc ?_ _)); exact BK170.out⟩, ⟨by (with_reducible repeat (first | refine blk_drewN ?_ _ | refine blk_drew ?_ | refine blk_alloc ?_ _)); exact BK171.out⟩, ⟨by repeat (first | (with_reducible first | exact HB.out | apply below_alloc | apply pw_below_drewN | apply below_drew1 | refine below_set ?_ GE170.out | refine below_set ?_ GE171.out) | exact HB.out)⟩⟩
  case rest =>
    clear HC3
    try clear c1
    try clear p2
    try clear c7
    try clear c8
    try clear c9
    try clear c14
    try clear c16
    try clear hcz10_0
    try clear hcz10_1
    try clear hcz10_2
    try clear hcz10_3
    try clear hcz10_4
    try clear hcz12_0
    try clear hcz12_1
    try clear hcz12_2
    try clear hcz12_3
    try clear hcz12_4
    try clear hcz15_0
    try clear hcz15_1
    try clear hcz15_2
    try clear hcz15_3
    try clear hcz15_4
    try clear hfz10_0
    try clear hfz10_1
    try clear hfz10_2
    try clear hfz10_3
    try clear hfz10_4
    try clear hfz12_0
    try clear hfz12_1
    try clear hfz12_2
    try clear hfz12_3
    try clear hfz12_4
    try clear hfz15_0
    try clear hfz15_1
    try clear hfz15_2
    try clear hfz15_3
    try clear hfz15_4
    obtain ⟨kq, x13_2, rfl, HA, HJ2, BK170, BK171, HB⟩ := hcut
    cases kq with
    | zero => exact absurd HA.out (by simp [laws_FnSemverIncPatchLeast.j0])
    | succ kj2 =>
      have H := HA.out
      clear HA
      simp only [laws_FnSemverIncPatchLeast.j0] at H
      by_cases c17 : x13_2 = true
      · subst c17
        have H1 : (some true) = some r := by rw [if_pos rfl] at H; exact H
        clear H
        have H := H1
        clear H1
        obtain rfl := Option.some.inj H
        go_wp2
        go_ret
        exact ⟨by first | rfl | (simp [errW_none, errW_some] <;> rfl) | (simp [*, errW_none, errW_some] <;> rfl) | (simp [bneNil]; done), by repeat (first | (with_reducible first | exact HB.out | apply below_alloc | apply pw_below_drewN | apply below_drew1 | refine below_set ?_ GE170.out | refine below_set ?_ GE171.out) | exact HB.out)⟩
      · replace c17 := Bool.eq_false_iff.mpr c17
        subst c17
        have H1 : ((spec_Bare.f a1_0 a1_1 a1_2 a1_3 a1_4).bind fun bt174 => ((laws_svGood.f kj2 (([(⟨a0_0, a0_1, a0_2, a0_3, a0_4⟩ : S28)] : List (S28)))).bind fun t182 => (if t182 = true then ((spec_Plain.f kj2 a0_0 a0_1 a0_2 a0_3 a0_4).bind fun t183 => (laws_FnSemverIncPatchLeast.j1 kj2 (!t183) a0_0 a0_1 a0_2 a0_3 a0_4 bt174.1 bt174.2.1 bt174.2.2.1 bt174.2.2.2.1 bt174.2.2.2.2)) else (laws_FnSemverIncPatchLeast.j1 kj2 true a0_0 a0_1 a0_2 a0_3 a0_4 bt174.1 bt174.2.1 bt174.2.2.1 bt174.2.2.2.1 bt174.2.2.2.2)))) = some r := by rw [if_neg (show ¬ (false = true) by decide)] at H; exact H
        clear H
        have H := H1
        clear H1
        replace H := Option.bind_eq_some_iff.mp H
        obtain ⟨⟨t174, t175, t176, t177, t178⟩, A180, H⟩ := H
        replace H : ((laws_svGood.f kj2 (([(⟨a0_0, a0_1, a0_2, a0_3, a0_4⟩ : S28)] : List (S28)))).bind fun t182 => (if t182 = true then ((spec_Plain.f kj2 a0_0 a0_1 a0_2 a0_3 a0_4).bind fun t183 => (laws_FnSemverIncPatchLeast.j1 kj2 (!t183) a0_0 a0_1 a0_2 a0_3 a0_4 t174 t175 t176 t177 t178)) else (laws_FnSemverIncPatchLeast.j1 kj2 true a0_0 a0_1 a0_2 a0_3 a0_4 t174 t175 t176 t177 t178))) = some r := H
        have A18 := Aside0.mk A180
        clear A180
        have HC19 := Aside0.mk H
        clear H
        have hnb20 := NB171_170.out
        have hnc20 := NB170_171.out
        have hcz21_0 : wc.cell? ⟨gb171, 0, none⟩ = some (.int .u64 a1_0) := (blk_cell BK171.out 0).trans rfl
        have hcz21_1 : wc.cell? ⟨gb171, 1, none⟩ = some (.int .u64 a1_1) := (blk_cell BK171.out 1).trans rfl
        have hcz21_2 : wc.cell? ⟨gb171, 2, none⟩ = some (.int .u64 a1_2) := (blk_cell BK171.out 2).trans rfl
        have hcz21_3 : wc.cell? ⟨gb171, 3, none⟩ = some (.string a1_3) := (blk_cell BK171.out 3).trans rfl
        have hcz21_4 : wc.cell? ⟨gb171, 4, none⟩ = some (.string a1_4) := (blk_cell BK171.out 4).trans rfl
        have hfz21_0 := blk_frozen BK171.out 0
        have hfz21_1 := blk_frozen BK171.out 1
        have hfz21_2 := blk_frozen BK171.out 2
        have hfz21_3 := blk_frozen BK171.out 3
        have hfz21_4 := blk_frozen BK171.out 4
        go_upto_region 4 with (first | ((with_reducible refine gate_callee (f := 22) rfl ?_); refine goesL_ (some 15) rfl rfl Tryd.func22 (by kernel_rfl) rfl #[.agg #[.int .u64 a1_0, .int .u64 a1_1, .int .u64 a1_2, .string a1_3, .string a1_4]] rfl (by (try simp only [List.map_toArray, List.map_cons, List.map_nil]); first | done | rfl | (simp only [List.length_drop, List.length_take]; rfl)) ?_; (with_reducible refine (spec_Bare.calls a1_0 a1_1 a1_2 a1_3 a1_4 t174 t175 t176 t177 t178 _ A18.out).mono ?_); rintro e w22 ⟨rfl, hb⟩; refine ⟨_, rfl, ?_⟩; have n0_ := Aside0.mk (blk_below (g := gb170) (o := .cells #[.int .u64 a0_0, .int .u64 a0_1, .int .u64 a0_2, .string a0_3, .string a0_4] 28 (0, 0)) (by (with_reducible repeat (first | refine blk_drewN ?_ _ | refine blk_drew ?_ | refine blk_alloc ?_ _)); exact BK170.out) hb); have n1_ := Aside0.mk (blk_below (g := gb171) (o := .cells #[.int .u64 a1_0, .int .u64 a1_1, .int .u64 a1_2, .string a1_3, .string a1_4] 28 (0, 0)) (by (with_reducible repeat (first | refine blk_drewN ?_ _ | refine blk_drew ?_ | refine blk_alloc ?_ _)); exact BK171.out) hb); have n2_ := Aside0.mk (below_step (by repeat (first | (with_reducible first | exact HB.out | apply below_alloc | apply pw_below_drewN | apply below_drew1 | refine below_set ?_ GE170.out | refine below_set ?_ GE171.out) | exact HB.out)) hb); clear BK170; clear BK171; clear HB; have BK170 := n0_; have BK171 := n1_; have HB := n2_; clear n0_ n1_ n2_; (try clear hb); (try clear hb2); (try clear hk); (try clear hi); have hcz23_0 : w22.cell? ⟨gb171, 0, none⟩ = some (.int .u64 a1_0) := (blk_cell BK171.out 0).trans rfl; have hcz23_1 : w22.cell? ⟨gb171, 1, none⟩ = some (.int .u64 a1_1) := (blk_cell BK171.out 1).trans rfl; have hcz23_2 : w22.cell? ⟨gb171, 2, none⟩ = some (.int .u64 a1_2) := (blk_cell BK171.out 2).trans rfl; have hcz23_3 : w22.cell? ⟨gb171, 3, none⟩ = some (.string a1_3) := (blk_cell BK171.out 3).trans rfl; have hcz23_4 : w22.cell? ⟨gb171, 4, none⟩ = some (.string a1_4) := (blk_cell BK171.out 4).trans rfl; have hfz23_0 := blk_frozen BK171.out 0; have hfz23_1 := blk_frozen BK171.out 1; have hfz23_2 := blk_frozen BK171.out 2; have hfz23_3 := blk_frozen BK171.out 3; have hfz23_4 := blk_frozen BK171.out 4))
        (try simp only [Act.put, List.setIfInBounds_toArray, List.set_cons_zero, List.set_cons_succ])
        go_cut [24] (fun v24 wc => ∃ (kq : Nat) (x24_18 : Bool), v24 = .bool x24_18 ∧ Aside0 (laws_FnSemverIncPatchLeast.j1 kq x24_18 a0_0 a0_1 a0_2 a0_3 a0_4 t174 t175 t176 t177 t178 = some r) ∧ Aside0 (kq ≤ kj2) ∧ Aside0 (wc.heap[gb170]? = some (.cells #[.int .u64 a0_0, .int .u64 a0_1, .int .u64 a0_2, .string a0_3, .string a0_4] 28 (0, 0))) ∧ Aside0 (wc.heap[gb171]? = some (.cells #[.int .u64 t174, .int .u64 t175, .int .u64 t176, .string t177, .string t178] 28 (0, 0))) ∧ Aside0 (Below w.heap.size w wc))
        case first =>
          have H := HC19.out
          clear HC19
          obtain ⟨y179, hy179⟩ : ∃ y_ : List (S28), y_ = (([(⟨a0_0, a0_1, a0_2, a0_3, a0_4⟩ : S28)] : List (S28))) := ⟨_, rfl⟩
          replace H : ((laws_svGood.f kj2 y179).bind fun t182 => (if t182 = true then ((spec_Plain.f kj2 a0_0 a0_1 a0_2 a0_3 a0_4).bind fun t183 => (laws_FnSemverIncPatchLeast.j1 kj2 (!t183) a0_0 a0_1 a0_2 a0_3 a0_4 t174 t175 t176 t177 t178)) else (laws_FnSemverIncPatchLeast.j1 kj2 true a0_0 a0_1 a0_2 a0_3 a0_4 t174 t175 t176 t177 t178))) = some r := by first | (rw [hy179]; with_reducible exact H) | (have H2_ := (Option.bind_some _ _).symm.trans H; rw [hy179]; with_reducible exact H2_) | (have H2_ := (Option.bind_some _ _).symm.trans H; with_reducible exact H2_) | with_reducible exact H | (rw [hy179]; exact H) | exact H
          have Ny179 := Aside0.mk hy179
          clear hy179
          replace H := Option.bind_eq_some_iff.mp H
          obtain ⟨t182, A240, H⟩ := H
          replace H : (if t182 = true then ((spec_Plain.f kj2 a0_0 a0_1 a0_2 a0_3 a0_4).bind fun t183 => (laws_FnSemverIncPatchLeast.j1 kj2 (!t183) a0_0 a0_1 a0_2 a0_3 a0_4 t174 t175 t176 t177 t178)) else (laws_FnSemverIncPatchLeast.j1 kj2 true a0_0 a0_1 a0_2 a0_3 a0_4 t174 t175 t176 t177 t178)) = some r := H
          have A24 := Aside0.mk A240
          clear A240
          by_cases c25 : t182 = true
          · subst c25
            have H1 : ((spec_Plain.f kj2 a0_0 a0_1 a0_2 a0_3 a0_4).bind fun t183 => (laws_FnSemverIncPatchLeast.j1 kj2 (!t183) a0_0 a0_1 a0_2 a0_3 a0_4 t174 t175 t176 t177 t178)) = some r := by rw [if_pos rfl] at H; exact H
            clear H
            have H := H1
            clear H1
            replace H := Option.bind_eq_some_iff.mp H
            obtain ⟨t183, A260, H⟩ := H
            replace H : (laws_FnSemverIncPatchLeast.j1 kj2 (!t183) a0_0 a0_1 a0_2 a0_3 a0_4 t174 t175 t176 t177 t178) = some r := H
            have A26 := Aside0.mk A260
            clear A260
            have H' := Aside0.mk H
            clear H
            have hnb27 := NB170_171.out
            have hnc27 := NB171_170.out
            have hcz28_0 : w22.cell? ⟨gb170, 0, none⟩ = some (.int .u64 a0_0) := (blk_cell BK170.out 0).trans rfl
            have hcz28_1 : w22.cell? ⟨gb170, 1, none⟩ = some (.int .u64 a0_1) := (blk_cell BK170.out 1).trans rfl
            have hcz28_2 : w22.cell? ⟨gb170, 2, none⟩ = some (.int .u64 a0_2) := (blk_cell BK170.out 2).trans rfl
            have hcz28_3 : w22.cell? ⟨gb170, 3, none⟩ = some (.string a0_3) := (blk_cell BK170.out 3).trans rfl
            have hcz28_4 : w22.cell? ⟨gb170, 4, none⟩ = some (.string a0_4) := (blk_cell BK170.out 4).trans rfl
            have hfz28_0 := blk_frozen BK170.out 0
            have hfz28_1 := blk_frozen BK170.out 1
            have hfz28_2 := blk_frozen BK170.out 2
            have hfz28_3 := blk_frozen BK170.out 3
            have hfz28_4 := blk_frozen BK170.out 4
            go_wp2_with (first | ((with_reducible refine gate_dst (N := 17) rfl ?_); refine Kd.R_lit k28 _ 28 ?hg (N := 17) ?hd (xs := ([(⟨a0_0, a0_1, a0_2, a0_3, a0_4⟩ : S28)] : List (S28))) (inner := [.int .u64 a0_0, .int .u64 a0_1, .int .u64 a0_2, .string a0_3, .string a0_4]) (ok := fun _ => True) (okp := fun _ => True) ?hr ?hp (fun _ hk => hk) trivial (Below.refl _ _) (Nat.le_refl _) (by simp) ?_; (case hd => rfl); (case hg => rfl); (case hr => first | (go_simp; done) | (go_simp; rfl) | (go_simp; simp [u8w]; done)); (case hp => exact (Reps.c5 (show Kd.M k28 _ _ _ (⟨a0_0, a0_1, a0_2, a0_3, a0_4⟩ : S28) [.int .u64 a0_0, .int .u64 a0_1, .int .u64 a0_2, .string a0_3, .string a0_4] from (k28_mkM _ _ _ (⟨a0_0, a0_1, a0_2, a0_3, a0_4⟩ : S28) )) (Reps.none _ _))); intro v180 w29 ho30 hb hg_ hnew_; clear hg_ hnew_; (first | rw [← Ny179.out] at ho30 | (simp only [Int.reduceToNat] at ho30; rw [← Ny179.out] at ho30)); have n0_ := Aside0.mk (Kd.R_lower (Kd.R_newB (Kd.R_newB ho30 (g := gb170) (o := .cells #[.int .u64 a0_0, .int .u64 a0_1, .int .u64 a0_2, .string a0_3, .string a0_4] 28 (0, 0)) (by (with_reducible repeat (first | refine blk_drewN ?_ _ | refine blk_drew ?_ | refine blk_alloc ?_ _)); refine blk_far ?_ NB170_171.out _; (with_reducible repeat (first | refine blk_drewN ?_ _ | refine blk_drew ?_ | refine blk_alloc ?_ _)); refine blk_far ?_ NB170_171.out _; (with_reducible repeat (first | refine blk_drewN ?_ _ | refine blk_drew ?_ | refine blk_alloc ?_ _)); refine blk_far ?_ NB170_171.out _; (with_reducible repeat (first | refine blk_drewN ?_ _ | refine blk_drew ?_ | refine blk_alloc ?_ _)); refine blk_far ?_ NB170_171.out _; (with_reducible repeat (first | refine blk_drewN ?_ _ | refine blk_drew ?_ | refine blk_alloc ?_ _)); refine blk_far ?_ NB170_171.out _; (with_reducible repeat (first | refine blk_drewN ?_ _ | refine blk_drew ?_ | refine blk_alloc ?_ _)); exact BK170.out)) (g := gb171) (o := .cells #[.int .u64 t174, .int .u64 t175, .int .u64 t176, .string t177, .string t178] 28 (0, 0)) (by (with_reducible repeat (first | refine blk_drewN ?_ _ | refine blk_drew ?_ | refine blk_alloc ?_ _)); refine blk_put (cs := #[.int .u64 t174, .int .u64 t175, .int .u64 t176, .string t177, .string a1_4]) ?_ 4 _ rfl; (with_reducible repeat (first | refine blk_drewN ?_ _ | refine blk_drew ?_ | refine blk_alloc ?_ _)); refine blk_put (cs := #[.int .u64 t174, .int .u64 t175, .int .u64 t176, .string a1_3, .string a1_4]) ?_ 3 _ rfl; (with_reducible repeat (first | refine blk_drewN ?_ _ | refine blk_drew ?_ | refine blk_alloc ?_ _)); refine blk_put (cs := #[.int .u64 t174, .int .u64 t175, .int .u64 a1_2, .string a1_3, .string a1_4]) ?_ 2 _ rfl; (with_reducible repeat (first | refine blk_drewN ?_ _ | refine blk_drew ?_ | refine blk_alloc ?_ _)); refine blk_put (cs := #[.int .u64 t174, .int .u64 a1_1, .int .u64 a1_2, .string a1_3, .string a1_4]) ?_ 1 _ rfl; (with_reducible repeat (first | refine blk_drewN ?_ _ | refine blk_drew ?_ | refine blk_alloc ?_ _)); refine blk_put (cs := #[.int .u64 a1_0, .int .u64 a1_1, .int .u64 a1_2, .string a1_3, .string a1_4]) ?_ 0 _ rfl; (with_reducible repeat (first | refine blk_drewN ?_ _ | refine blk_drew ?_ | refine blk_alloc ?_ _)); exact BK171.out)) (below_size (by repeat (first | (with_reducible first | exact HB.out | apply below_alloc | apply pw_below_drewN | apply below_drew1 | refine below_set ?_ GE170.out | refine below_set ?_ GE171.out) | exact HB.out)))); have n1_ := Aside0.mk (blk_below (g := gb170) (o := .cells #[.int .u64 a0_0, .int .u64 a0_1, .int .u64 a0_2, .string a0_3, .string a0_4] 28 (0, 0)) (by (with_reducible repeat (first | refine blk_drewN ?_ _ | refine blk_drew ?_ | refine blk_alloc ?_ _)); refine blk_far ?_ NB170_171.out _; (with_reducible repeat (first | refine blk_drewN ?_ _ | refine blk_drew ?_ | refine blk_alloc ?_ _)); refine blk_far ?_ NB170_171.out _; (with_reducible repeat (first | refine blk_drewN ?_ _ | refine blk_drew ?_ | refine blk_alloc ?_ _)); refine blk_far ?_ NB170_171.out _; (with_reducible repeat (first | refine blk_drewN ?_ _ | refine blk_drew ?_ | refine blk_alloc ?_ _)); refine blk_far ?_ NB170_171.out _; (with_reducible repeat (first | refine blk_drewN ?_ _ | refine blk_drew ?_ | refine blk_alloc ?_ _)); refine blk_far ?_ NB170_171.out _; (with_reducible repeat (first | refine blk_drewN ?_ _ | refine blk_drew ?_ | refine blk_alloc ?_ _)); exact BK170.out) hb); have n2_ := Aside0.mk (blk_below (g := gb171) (o := .cells #[.int .u64 t174, .int .u64 t175, .int .u64 t176, .string t177, .string t178] 28 (0, 0)) (by (with_reducible repeat (first | refine blk_drewN ?_ _ | refine blk_drew ?_ | refine blk_alloc ?_ _)); refine blk_put (cs := #[.int .u64 t174, .int .u64 t175, .int .u64 t176, .string t177, .string a1_4]) ?_ 4 _ rfl; (with_reducible repeat (first | refine blk_drewN ?_ _ | refine blk_drew ?_ | refine blk_alloc ?_ _)); refine blk_put (cs := #[.int .u64 t174, .int .u64 t175, .int .u64 t176, .string a1_3, .string a1_4]) ?_ 3 _ rfl; (with_reducible repeat (first | refine blk_drewN ?_ _ | refine blk_drew ?_ | refine blk_alloc ?_ _)); refine blk_put (cs := #[.int .u64 t174, .int .u64 t175, .int .u64 a1_2, .string a1_3, .string a1_4]) ?_ 2 _ rfl; (with_reducible repeat (first | refine blk_drewN ?_ _ | refine blk_drew ?_ | refine blk_alloc ?_ _)); refine blk_put (cs := #[.int .u64 t174, .int .u64 a1_1, .int .u64 a1_2, .string a1_3, .string a1_4]) ?_ 1 _ rfl; (with_reducible repeat (first | refine blk_drewN ?_ _ | refine blk_drew ?_ | refine blk_alloc ?_ _)); refine blk_put (cs := #[.int .u64 a1_0, .int .u64 a1_1, .int .u64 a1_2, .string a1_3, .string a1_4]) ?_ 0 _ rfl; (with_reducible repeat (first | refine blk_drewN ?_ _ | refine blk_drew ?_ | refine blk_alloc ?_ _)); exact BK171.out) hb); have n3_ := Aside0.mk (below_step (by repeat (first | (with_reducible first | exact HB.out | apply below_alloc | apply pw_below_drewN | apply below_drew1 | refine below_set ?_ GE170.out | refine below_set ?_ GE171.out) | exact HB.out)) hb); clear BK170; clear BK171; clear HB; have HO181 := n0_; have BK170 := n1_; have BK171 := n2_; have HB := n3_; clear n0_ n1_ n2_ n3_; clear hb ho30; obtain ⟨Ao31, co31, eo31⟩ := Kd.R_slice HO181.out; subst eo31) | ((with_reducible refine gate_callee (f := 17) rfl ?_); refine goesL_ (some 18) rfl rfl Tryd.func17 (by kernel_rfl) rfl #[.slice Ao31 y179.length co31] rfl (by (try simp only [List.map_toArray, List.map_cons, List.map_nil]); first | done | rfl | (simp only [List.length_drop, List.length_take]; rfl)) ?_; (with_reducible refine (laws_svGood.calls kj2 _ _ y179 true _ ?side1 ?side2 A24.out).mono ?_); (case side1 => repeat (first | exact (Kd.R_reads' HO181.out).2.2 | (with_reducible refine Kd.C_alloc ?_ _) | (with_reducible refine Kd.C_drewN ?_ _) | (with_reducible refine Kd.C_drew ?_))); (case side2 => exact (Kd.R_reads' HO181.out).2.1); rintro e w32 ⟨rfl, hb⟩; refine ⟨_, rfl, ?_⟩; have n0_ := Aside0.mk (Kd.R_below (by (with_reducible repeat (first | apply Kd.R_alloc | apply Kd.R_drewN | apply Kd.R_drew)); exact HO181.out) hb); have n1_ := Aside0.mk (blk_below (g := gb170) (o := .cells #[.int .u64 a0_0, .int .u64 a0_1, .int .u64 a0_2, .string a0_3, .string a0_4] 28 (0, 0)) (by (with_reducible repeat (first | refine blk_drewN ?_ _ | refine blk_drew ?_ | refine blk_alloc ?_ _)); exact BK170.out) hb); have n2_ := Aside0.mk (blk_below (g := gb171) (o := .cells #[.int .u64 t174, .int .u64 t175, .int .u64 t176, .string t177, .string t178] 28 (0, 0)) (by (with_reducible repeat (first | refine blk_drewN ?_ _ | refine blk_drew ?_ | refine blk_alloc ?_ _)); exact BK171.out) hb); have n3_ := Aside0.mk (below_step (by repeat (first | (with_reducible first | exact HB.out | apply below_alloc | apply pw_below_drewN | apply below_drew1 | refine below_set ?_ GE170.out | refine below_set ?_ GE171.out) | exact HB.out)) hb); clear HO181; clear BK170; clear BK171; clear HB; have HO181 := n0_; have BK170 := n1_; have BK171 := n2_; have HB := n3_; clear n0_ n1_ n2_ n3_; (try clear hb); (try clear hb2); (try clear hk); (try clear hi); have hcz33_0 : w32.cell? ⟨gb170, 0, none⟩ = some (.int .u64 a0_0) := (blk_cell BK170.out 0).trans rfl; have hcz33_1 : w32.cell? ⟨gb170, 1, none⟩ = some (.int .u64 a0_1) := (blk_cell BK170.out 1).trans rfl; have hcz33_2 : w32.cell? ⟨gb170, 2, none⟩ = some (.int .u64 a0_2) := (blk_cell BK170.out 2).trans rfl; have hcz33_3 : w32.cell? ⟨gb170, 3, none⟩ = some (.string a0_3) := (blk_cell BK170.out 3).trans rfl; have hcz33_4 : w32.cell? ⟨gb170, 4, none⟩ = some (.string a0_4) := (blk_cell BK170.out 4).trans rfl; have hfz33_0 := blk_frozen BK170.out 0; have hfz33_1 := blk_frozen BK170.out 1; have hfz33_2 := blk_frozen BK170.out 2; have hfz33_3 := blk_frozen BK170.out 3; have hfz33_4 := blk_frozen BK170.out 4) | (go_at_call 26; (with_reducible refine (spec_Plain.calls kj2 a0_0 a0_1 a0_2 a0_3 a0_4 t183 _ A26.out).mono ?_); rintro e w34 ⟨rfl, hb⟩; have n0_ := Aside0.mk (Kd.R_below (by (with_reducible repeat (first | apply Kd.R_alloc | apply Kd.R_drewN | apply Kd.R_drew)); exact HO181.out) hb); have n1_ := Aside0.mk (blk_below (g := gb170) (o := .cells #[.int .u64 a0_0, .int .u64 a0_1, .int .u64 a0_2, .string a0_3, .string a0_4] 28 (0, 0)) (by (with_reducible repeat (first | refine blk_drewN ?_ _ | refine blk_drew ?_ | refine blk_alloc ?_ _)); exact BK170.out) hb); have n2_ := Aside0.mk (blk_below (g := gb171) (o := .cells #[.int .u64 t174, .int .u64 t175, .int .u64 t176, .string t177, .string t178] 28 (0, 0)) (by (with_reducible repeat (first | refine blk_drewN ?_ _ | refine blk_drew ?_ | refine blk_alloc ?_ _)); exact BK171.out) hb); have n3_ := Aside0.mk (below_step (by repeat (first | (with_reducible first | exact HB.out | apply below_alloc | apply pw_below_drewN | apply below_drew1 | refine below_set ?_ GE170.out | refine below_set ?_ GE171.out) | exact HB.out)) hb); clear HO181; clear BK170; clear BK171; clear HB; have HO181 := n0_; have BK170 := n1_; have BK171 := n2_; have HB := n3_; clear n0_ n1_ n2_ n3_; (try clear hb); (try clear hb2); (try clear hk); (try clear hi)))
            go_meet
            case rel => exact ⟨_, (!t183), (by first | rfl | (simp; done) | (simp [*]; done)), H', ⟨by have := HJ2.out; first | omega | exact Nat.le_refl _⟩, ⟨by (with_reducible repeat (first | refine blk_drewN ?_ _ | refine blk_drew ?_ | refine blk_alloc ?_ _)); exact BK170.out⟩, ⟨by (with_reducible repeat (first | refine blk_drewN ?_ _ | refine blk_drew ?_ | refine blk_alloc ?_ _)); exact BK171.out⟩, ⟨by repeat (first | (with_reducible first | exact HB.out | apply below_alloc | apply pw_below_drewN | apply below_drew1 | refine below_set ?_ GE170.out | refine below_set ?_ GE171.out) | exact HB.out)⟩⟩
          · replace c25 := Bool.eq_false_iff.mpr c25
            subst c25
            have H1 : (laws_FnSemverIncPatchLeast.j1 kj2 true a0_0 a0_1 a0_2 a0_3 a0_4 t174 t175 t176 t177 t178) = some r := by rw [if_neg (show ¬ (false = true) by decide)] at H; exact H
            clear H
            have H := H1
            clear H1
            have H' := Aside0.mk H
            clear H
            have hnb35 := NB170_171.out
            have hnc35 := NB171_170.out
            have hcz36_0 : w22.cell? ⟨gb170, 0, none⟩ = some (.int .u64 a0_0) := (blk_cell BK170.out 0).trans rfl
            have hcz36_1 : w22.cell? ⟨gb170, 1, none⟩ = some (.int .u64 a0_1) := (blk_cell BK170.out 1).trans rfl
            have hcz36_2 : w22.cell? ⟨gb170, 2, none⟩ = some (.int .u64 a0_2) := (blk_cell BK170.out 2).trans rfl
            have hcz36_3 : w22.cell? ⟨gb170, 3, none⟩ = some (.string a0_3) := (blk_cell BK170.out 3).trans rfl
            have hcz36_4 : w22.cell? ⟨gb170, 4, none⟩ = some (.string a0_4) := (blk_cell BK170.out 4).trans rfl
            have hfz36_0 := blk_frozen BK170.out 0
            have hfz36_1 := blk_frozen BK170.out 1
            have hfz36_2 := blk_frozen BK170.out 2
            have hfz36_3 := blk_frozen BK170.out 3
            have hfz36_4 := blk_frozen BK170.out 4
            go_wp2_with (first | ((with_reducible refine gate_dst (N := 17) rfl ?_); refine Kd.R_lit k28 _ 28 ?hg (N := 17) ?hd (xs := ([(⟨a0_0, a0_1, a0_2, a0_3, a0_4⟩ : S28)] : List (S28))) (inner := [.int .u64 a0_0, .int .u64 a0_1, .int .u64 a0_2, .string a0_3, .string a0_4]) (ok := fun _ => True) (okp := fun _ => True) ?hr ?hp (fun _ hk => hk) trivial (Below.refl _ _) (Nat.le_refl _) (by simp) ?_; (case hd => rfl); (case hg => rfl); (case hr => first | (go_simp; done) | (go_simp; rfl) | (go_simp; simp [u8w]; done)); (case hp => exact (Reps.c5 (show Kd.M k28 _ _ _ (⟨a0_0, a0_1, a0_2, a0_3, a0_4⟩ : S28) [.int .u64 a0_0, .int .u64 a0_1, .int .u64 a0_2, .string a0_3, .string a0_4] from (k28_mkM _ _ _ (⟨a0_0, a0_1, a0_2, a0_3, a0_4⟩ : S28) )) (Reps.none _ _))); intro v180 w37 ho38 hb hg_ hnew_; clear hg_ hnew_; (first | rw [← Ny179.out] at ho38 | (simp only [Int.reduceToNat] at ho38; rw [← Ny179.out] at ho38)); have n0_ := Aside0.mk (Kd.R_lower (Kd.R_newB (Kd.R_newB ho38 (g := gb170) (o := .cells #[.int .u64 a0_0, .int .u64 a0_1, .int .u64 a0_2, .string a0_3, .string a0_4] 28 (0, 0)) (by (with_reducible repeat (first | refine blk_drewN ?_ _ | refine blk_drew ?_ | refine blk_alloc ?_ _)); refine blk_far ?_ NB170_171.out _; (with_reducible repeat (first | refine blk_drewN ?_ _ | refine blk_drew ?_ | refine blk_alloc ?_ _)); refine blk_far ?_ NB170_171.out _; (with_reducible repeat (first | refine blk_drewN ?_ _ | refine blk_drew ?_ | refine blk_alloc ?_ _)); refine blk_far ?_ NB170_171.out _; (with_reducible repeat (first | refine blk_drewN ?_ _ | refine blk_drew ?_ | refine blk_alloc ?_ _)); refine blk_far ?_ NB170_171.out _; (with_reducible repeat (first | refine blk_drewN ?_ _ | refine blk_drew ?_ | refine blk_alloc ?_ _)); refine blk_far ?_ NB170_171.out _; (with_reducible repeat (first | refine blk_drewN ?_ _ | refine blk_drew ?_ | refine blk_alloc ?_ _)); exact BK170.out)) (g := gb171) (o := .cells #[.int .u64 t174, .int .u64 t175, .int .u64 t176, .string t177, .string t178] 28 (0, 0)) (by (with_reducible repeat (first | refine blk_drewN ?_ _ | refine blk_drew ?_ | refine blk_alloc ?_ _)); refine blk_put (cs := #[.int .u64 t174, .int .u64 t175, .int .u64 t176, .string t177, .string a1_4]) ?_ 4 _ rfl; (with_reducible repeat (first | refine blk_drewN ?_ _ | refine blk_drew ?_ | refine blk_alloc ?_ _)); refine blk_put (cs := #[.int .u64 t174, .int .u64 t175, .int .u64 t176, .string a1_3, .string a1_4]) ?_ 3 _ rfl; (with_reducible repeat (first | refine blk_drewN ?_ _ | refine blk_drew ?_ | refine blk_alloc ?_ _)); refine blk_put (cs := #[.int .u64 t174, .int .u64 t175, .int .u64 a1_2, .string a1_3, .string a1_4]) ?_ 2 _ rfl; (with_reducible repeat (first | refine blk_drewN ?_ _ | refine blk_drew ?_ | refine blk_alloc ?_ _)); refine blk_put (cs := #[.int .u64 t174, .int .u64 a1_1, .int .u64 a1_2, .string a1_3, .string a1_4]) ?_ 1 _ rfl; (with_reducible repeat (first | refine blk_drewN ?_ _ | refine blk_drew ?_ | refine blk_alloc ?_ _)); refine blk_put (cs := #[.int .u64 a1_0, .int .u64 a1_1, .int .u64 a1_2, .string a1_3, .string a1_4]) ?_ 0 _ rfl; (with_reducible repeat (first | refine blk_drewN ?_ _ | refine blk_drew ?_ | refine blk_alloc ?_ _)); exact BK171.out)) (below_size (by repeat (first | (with_reducible first | exact HB.out | apply below_alloc | apply pw_below_drewN | apply below_drew1 | refine below_set ?_ GE170.out | refine below_set ?_ GE171.out) | exact HB.out)))); have n1_ := Aside0.mk (blk_below (g := gb170) (o := .cells #[.int .u64 a0_0, .int .u64 a0_1, .int .u64 a0_2, .string a0_3, .string a0_4] 28 (0, 0)) (by (with_reducible repeat (first | refine blk_drewN ?_ _ | refine blk_drew ?_ | refine blk_alloc ?_ _)); refine blk_far ?_ NB170_171.out _; (with_reducible repeat (first | refine blk_drewN ?_ _ | refine blk_drew ?_ | refine blk_alloc ?_ _)); refine blk_far ?_ NB170_171.out _; (with_reducible repeat (first | refine blk_drewN ?_ _ | refine blk_drew ?_ | refine blk_alloc ?_ _)); refine blk_far ?_ NB170_171.out _; (with_reducible repeat (first | refine blk_drewN ?_ _ | refine blk_drew ?_ | refine blk_alloc ?_ _)); refine blk_far ?_ NB170_171.out _; (with_reducible repeat (first | refine blk_drewN ?_ _ | refine blk_drew ?_ | refine blk_alloc ?_ _)); refine blk_far ?_ NB170_171.out _; (with_reducible repeat (first | refine blk_drewN ?_ _ | refine blk_drew ?_ | refine blk_alloc ?_ _)); exact BK170.out) hb); have n2_ := Aside0.mk (blk_below (g := gb171) (o := .cells #[.int .u64 t174, .int .u64 t175, .int .u64 t176, .string t177, .string t178] 28 (0, 0)) (by (with_reducible repeat (first | refine blk_drewN ?_ _ | refine blk_drew ?_ | refine blk_alloc ?_ _)); refine blk_put (cs := #[.int .u64 t174, .int .u64 t175, .int .u64 t176, .string t177, .string a1_4]) ?_ 4 _ rfl; (with_reducible repeat (first | refine blk_drewN ?_ _ | refine blk_drew ?_ | refine blk_alloc ?_ _)); refine blk_put (cs := #[.int .u64 t174, .int .u64 t175, .int .u64 t176, .string a1_3, .string a1_4]) ?_ 3 _ rfl; (with_reducible repeat (first | refine blk_drewN ?_ _ | refine blk_drew ?_ | refine blk_alloc ?_ _)); refine blk_put (cs := #[.int .u64 t174, .int .u64 t175, .int .u64 a1_2, .string a1_3, .string a1_4]) ?_ 2 _ rfl; (with_reducible repeat (first | refine blk_drewN ?_ _ | refine blk_drew ?_ | refine blk_alloc ?_ _)); refine blk_put (cs := #[.int .u64 t174, .int .u64 a1_1, .int .u64 a1_2, .string a1_3, .string a1_4]) ?_ 1 _ rfl; (with_reducible repeat (first | refine blk_drewN ?_ _ | refine blk_drew ?_ | refine blk_alloc ?_ _)); refine blk_put (cs := #[.int .u64 a1_0, .int .u64 a1_1, .int .u64 a1_2, .string a1_3, .string a1_4]) ?_ 0 _ rfl; (with_reducible repeat (first | refine blk_drewN ?_ _ | refine blk_drew ?_ | refine blk_alloc ?_ _)); exact BK171.out) hb); have n3_ := Aside0.mk (below_step (by repeat (first | (with_reducible first | exact HB.out | apply below_alloc | apply pw_below_drewN | apply below_drew1 | refine below_set ?_ GE170.out | refine below_set ?_ GE171.out) | exact HB.out)) hb); clear BK170; clear BK171; clear HB; have HO181 := n0_; have BK170 := n1_; have BK171 := n2_; have HB := n3_; clear n0_ n1_ n2_ n3_; clear hb ho38; obtain ⟨Ao39, co39, eo39⟩ := Kd.R_slice HO181.out; subst eo39) | ((with_reducible refine gate_callee (f := 17) rfl ?_); refine goesL_ (some 18) rfl rfl Tryd.func17 (by kernel_rfl) rfl #[.slice Ao39 y179.length co39] rfl (by (try simp only [List.map_toArray, List.map_cons, List.map_nil]); first | done | rfl | (simp only [List.length_drop, List.length_take]; rfl)) ?_; (with_reducible refine (laws_svGood.calls kj2 _ _ y179 false _ ?side1 ?side2 A24.out).mono ?_); (case side1 => repeat (first | exact (Kd.R_reads' HO181.out).2.2 | (with_reducible refine Kd.C_alloc ?_ _) | (with_reducible refine Kd.C_drewN ?_ _) | (with_reducible refine Kd.C_drew ?_))); (case side2 => exact (Kd.R_reads' HO181.out).2.1); rintro e w40 ⟨rfl, hb⟩; refine ⟨_, rfl, ?_⟩; have n0_ := Aside0.mk (Kd.R_below (by (with_reducible repeat (first | apply Kd.R_alloc | apply Kd.R_drewN | apply Kd.R_drew)); exact HO181.out) hb); have n1_ := Aside0.mk (blk_below (g := gb170) (o := .cells #[.int .u64 a0_0, .int .u64 a0_1, .int .u64 a0_2, .string a0_3, .string a0_4] 28 (0, 0)) (by (with_reducible repeat (first | refine blk_drewN ?_ _ | refine blk_drew ?_ | refine blk_alloc ?_ _)); exact BK170.out) hb); have n2_ := Aside0.mk (blk_below (g := gb171) (o := .cells #[.int .u64 t174, .int .u64 t175, .int .u64 t176, .string t177, .string t178] 28 (0, 0)) (by (with_reducible repeat (first | refine blk_drewN ?_ _ | refine blk_drew ?_ | refine blk_alloc ?_ _)); exact BK171.out) hb); have n3_ := Aside0.mk (below_step (by repeat (first | (with_reducible first | exact HB.out | apply below_alloc | apply pw_below_drewN | apply below_drew1 | refine below_set ?_ GE170.out | refine below_set ?_ GE171.out) | exact HB.out)) hb); clear HO181; clear BK170; clear BK171; clear HB; have HO181 := n0_; have BK170 := n1_; have BK171 := n2_; have HB := n3_; clear n0_ n1_ n2_ n3_; (try clear hb); (try clear hb2); (try clear hk); (try clear hi)))
            go_meet
            case rel => exact ⟨_, (true), (by first | rfl | (simp; done) | (simp [*]; done)), H', ⟨by have := HJ2.out; first | omega | exact Nat.le_refl _⟩, ⟨by (with_reducible repeat (first | refine blk_drewN ?_ _ | refine blk_drew ?_ | refine blk_alloc ?_ _)); exact BK170.out⟩, ⟨by (with_reducible repeat (first | refine blk_drewN ?_ _ | refine blk_drew ?_ | refine blk_alloc ?_ _)); exact BK171.out⟩, ⟨by repeat (first | (with_reducible first | exact HB.out | apply below_alloc | apply pw_below_drewN | apply below_drew1 | refine below_set ?_ GE170.out | refine below_set ?_ GE171.out) | exact HB.out)⟩⟩
        case rest =>
          clear HC19
          try clear c1
          try clear c2
          try clear p2
          try clear c3
          try clear c5
          try clear c7
          try clear c8
          try clear c9
          try clear c14
          try clear c16
          try clear c17
          try clear c20
          try clear c22
          try clear c25
          try clear c27
          try clear c35
          try clear hcz10_0
          try clear hcz10_1
          try clear hcz10_2
          try clear hcz10_3
          try clear hcz10_4
          try clear hcz12_0
          try clear hcz12_1
          try clear hcz12_2
          try clear hcz12_3
          try clear hcz12_4
          try clear hcz15_0
          try clear hcz15_1
          try clear hcz15_2
          try clear hcz15_3
          try clear hcz15_4
          try clear hcz21_0
          try clear hcz21_1
          try clear hcz21_2
          try clear hcz21_3
          try clear hcz21_4
          try clear hcz23_0
          try clear hcz23_1
          try clear hcz23_2
          try clear hcz23_3
          try clear hcz23_4
          try clear hcz28_0
          try clear hcz28_1
          try clear hcz28_2
          try clear hcz28_3
          try clear hcz28_4
          try clear hcz33_0
          try clear hcz33_1
          try clear hcz33_2
          try clear hcz33_3
          try clear hcz33_4
          try clear hcz36_0
          try clear hcz36_1
          try clear hcz36_2
          try clear hcz36_3
          try clear hcz36_4
          try clear hfz10_0
          try clear hfz10_1
          try clear hfz10_2
          try clear hfz10_3
          try clear hfz10_4
          try clear hfz12_0
          try clear hfz12_1
          try clear hfz12_2
          try clear hfz12_3
          try clear hfz12_4
          try clear hfz15_0
          try clear hfz15_1
          try clear hfz15_2
          try clear hfz15_3
          try clear hfz15_4
          try clear hfz21_0
          try clear hfz21_1
          try clear hfz21_2
          try clear hfz21_3
          try clear hfz21_4
          try clear hfz23_0
          try clear hfz23_1
          try clear hfz23_2
          try clear hfz23_3
          try clear hfz23_4
          try clear hfz28_0
          try clear hfz28_1
          try clear hfz28_2
          try clear hfz28_3
          try clear hfz28_4
          try clear hfz33_0
          try clear hfz33_1
          try clear hfz33_2
          try clear hfz33_3
          try clear hfz33_4
          try clear hfz36_0
          try clear hfz36_1
          try clear hfz36_2
          try clear hfz36_3
          try clear hfz36_4
          try clear p2
          obtain ⟨kq, x24_18, rfl, HA, HJ18, BK170, BK171, HB⟩ := hcut
          cases kq with
          | zero => exact absurd HA.out (by simp [laws_FnSemverIncPatchLeast.j1])
          | succ kj18 =>
            have H := HA.out
            clear HA
            simp only [laws_FnSemverIncPatchLeast.j1] at H
            by_cases c41 : x24_18 = true
            · subst c41
              have H1 : (some true) = some r := by rw [if_pos rfl] at H; exact H
              clear H
              have H := H1
              clear H1
              obtain rfl := Option.some.inj H
              go_wp2
              go_ret
              exact ⟨by first | rfl | (simp [errW_none, errW_some] <;> rfl) | (simp [*, errW_none, errW_some] <;> rfl) | (simp [bneNil]; done), by repeat (first | (with_reducible first | exact HB.out | apply below_alloc | apply pw_below_drewN | apply below_drew1 | refine below_set ?_ GE170.out | refine below_set ?_ GE171.out) | exact HB.out)⟩
            · replace c41 := Bool.eq_false_iff.mpr c41
              subst c41
              have H1 : ((impl_VersionIncPatch.f a0_0 a0_1 a0_2 a0_3 a0_4).bind fun bt184 => ((impl_VersionLess.f a0_0 a0_1 a0_2 a0_3 a0_4 bt184.1 bt184.2.1 bt184.2.2.1 bt184.2.2.2.1 bt184.2.2.2.2).bind fun t190 => (if t190 = true then ((impl_VersionLess.f a0_0 a0_1 a0_2 a0_3 a0_4 t174 t175 t176 t177 t178).bind fun t191 => ((impl_VersionLessEqual.f bt184.1 bt184.2.1 bt184.2.2.1 bt184.2.2.2.1 bt184.2.2.2.2 t174 t175 t176 t177 t178).bind fun t192 => (some (t191 == t192)))) else (some false)))) = some r := by rw [if_neg (show ¬ (false = true) by decide)] at H; exact H
              clear H
              have H := H1
              clear H1
              replace H := Option.bind_eq_some_iff.mp H
              obtain ⟨⟨t184, t185, t186, t187, t188⟩, A420, H⟩ := H
              replace H : ((impl_VersionLess.f a0_0 a0_1 a0_2 a0_3 a0_4 t184 t185 t186 t187 t188).bind fun t190 => (if t190 = true then ((impl_VersionLess.f a0_0 a0_1 a0_2 a0_3 a0_4 t174 t175 t176 t177 t178).bind fun t191 => ((impl_VersionLessEqual.f t184 t185 t186 t187 t188 t174 t175 t176 t177 t178).bind fun t192 => (some (t191 == t192)))) else (some false))) = some r := H
              have A42 := Aside0.mk A420
              clear A420
              replace H := Option.bind_eq_some_iff.mp H
              obtain ⟨t190, A430, H⟩ := H
              replace H : (if t190 = true then ((impl_VersionLess.f a0_0 a0_1 a0_2 a0_3 a0_4 t174 t175 t176 t177 t178).bind fun t191 => ((impl_VersionLessEqual.f t184 t185 t186 t187 t188 t174 t175 t176 t177 t178).bind fun t192 => (some (t191 == t192)))) else (some false)) = some r := H
              have A43 := Aside0.mk A430
              clear A430
              by_cases c44 : t190 = true
              · subst c44
                have H1 : ((impl_VersionLess.f a0_0 a0_1 a0_2 a0_3 a0_4 t174 t175 t176 t177 t178).bind fun t191 => ((impl_VersionLessEqual.f t184 t185 t186 t187 t188 t174 t175 t176 t177 t178).bind fun t192 => (some (t191 == t192)))) = some r := by rw [if_pos rfl] at H; exact H
                clear H
                have H := H1
                clear H1
                replace H := Option.bind_eq_some_iff.mp H
                obtain ⟨t191, A450, H⟩ := H
                replace H : ((impl_VersionLessEqual.f t184 t185 t186 t187 t188 t174 t175 t176 t177 t178).bind fun t192 => (some (t191 == t192))) = some r := H
                have A45 := Aside0.mk A450
                clear A450
                replace H := Option.bind_eq_some_iff.mp H
                obtain ⟨t192, A460, H⟩ := H
                replace H : (some (t191 == t192)) = some r := H
                have A46 := Aside0.mk A460
                clear A460
                obtain rfl := Option.some.inj H
                have hnb47 := NB170_171.out
                have hnc47 := NB171_170.out
                have hcz48_0 : wc.cell? ⟨gb170, 0, none⟩ = some (.int .u64 a0_0) := (blk_cell BK170.out 0).trans rfl
                have hcz48_1 : wc.cell? ⟨gb170, 1, none⟩ = some (.int .u64 a0_1) := (blk_cell BK170.out 1).trans rfl
                have hcz48_2 : wc.cell? ⟨gb170, 2, none⟩ = some (.int .u64 a0_2) := (blk_cell BK170.out 2).trans rfl
                have hcz48_3 : wc.cell? ⟨gb170, 3, none⟩ = some (.string a0_3) := (blk_cell BK170.out 3).trans rfl
                have hcz48_4 : wc.cell? ⟨gb170, 4, none⟩ = some (.string a0_4) := (blk_cell BK170.out 4).trans rfl
                have hfz48_0 := blk_frozen BK170.out 0
                have hfz48_1 := blk_frozen BK170.out 1
                have hfz48_2 := blk_frozen BK170.out 2
                have hfz48_3 := blk_frozen BK170.out 3
                have hfz48_4 := blk_frozen BK170.out 4
                try go_wp2_with (first | ((with_reducible refine gate_callee (f := 27) rfl ?_); refine goesL_ (some 26) rfl rfl Tryd.func27 (by kernel_rfl) rfl #[.agg #[.int .u64 a0_0, .int .u64 a0_1, .int .u64 a0_2, .string a0_3, .string a0_4]] rfl (by (try simp only [List.map_toArray, List.map_cons, List.map_nil]); first | done | rfl | (simp only [List.length_drop, List.length_take]; rfl)) ?_; (with_reducible refine (impl_VersionIncPatch.calls a0_0 a0_1 a0_2 a0_3 a0_4 t184 t185 t186 t187 t188 _ ?side1 A42.out).mono ?_); (case side1 => exact HPow.out.below (by repeat (first | (with_reducible first | exact HB.out | apply below_alloc | apply pw_below_drewN | apply below_drew1 | refine below_set ?_ GE170.out | refine below_set ?_ GE171.out) | exact HB.out))); rintro e w49 ⟨rfl, hb⟩; refine ⟨_, rfl, ?_⟩; have n0_ := Aside0.mk (blk_below (g := gb170) (o := .cells #[.int .u64 a0_0, .int .u64 a0_1, .int .u64 a0_2, .string a0_3, .string a0_4] 28 (0, 0)) (by (with_reducible repeat (first | refine blk_drewN ?_ _ | refine blk_drew ?_ | refine blk_alloc ?_ _)); exact BK170.out) hb); have n1_ := Aside0.mk (blk_below (g := gb171) (o := .cells #[.int .u64 t174, .int .u64 t175, .int .u64 t176, .string t177, .string t178] 28 (0, 0)) (by (with_reducible repeat (first | refine blk_drewN ?_ _ | refine blk_drew ?_ | refine blk_alloc ?_ _)); exact BK171.out) hb); have n2_ := Aside0.mk (below_step (by repeat (first | (with_reducible first | exact HB.out | apply below_alloc | apply pw_below_drewN | apply below_drew1 | refine below_set ?_ GE170.out | refine below_set ?_ GE171.out) | exact HB.out)) hb); clear BK170; clear BK171; clear HB; have BK170 := n0_; have BK171 := n1_; have HB := n2_; clear n0_ n1_ n2_; (try clear hb); (try clear hb2); (try clear hk); (try clear hi)) | ((with_reducible refine gate_dst (N := 5) rfl ?_); refine box_event ?hg (N := 5) ?hd (cs := #[.int .u64 0, .int .u64 0, .int .u64 0, .string (⟨#[]⟩ : ByteArray), .string (⟨#[]⟩ : ByteArray)]) (t := 28) ?hr ?_; (case hd => rfl); (case hg => rfl); (case hr => first | (go_simp; done) | (go_simp; rfl) | (go_simp; simp [u8w]; done)); intro gb189 hg w50 hbox hb; have n0_ := Aside0.mk (blk_below (g := gb170) (o := .cells #[.int .u64 a0_0, .int .u64 a0_1, .int .u64 a0_2, .string a0_3, .string a0_4] 28 (0, 0)) (by (with_reducible repeat (first | refine blk_drewN ?_ _ | refine blk_drew ?_ | refine blk_alloc ?_ _)); exact BK170.out) hb); have n1_ := Aside0.mk (blk_below (g := gb171) (o := .cells #[.int .u64 t174, .int .u64 t175, .int .u64 t176, .string t177, .string t178] 28 (0, 0)) (by (with_reducible repeat (first | refine blk_drewN ?_ _ | refine blk_drew ?_ | refine blk_alloc ?_ _)); exact BK171.out) hb); have n2_ := Aside0.mk (below_step (by repeat (first | (with_reducible first | exact HB.out | apply below_alloc | apply pw_below_drewN | apply below_drew1 | refine below_set ?_ GE170.out | refine below_set ?_ GE171.out) | exact HB.out)) hb); have n3_ := Aside0.mk (hbox); have n4_ := Aside0.mk ((by rw [hg]; exact (below_size (by repeat (first | (with_reducible first | exact HB.out | apply below_alloc | apply pw_below_drewN | apply below_drew1 | refine below_set ?_ GE170.out | refine below_set ?_ GE171.out) | exact HB.out))) : w.heap.size ≤ gb189)); have n5_ := Aside0.mk ((by rw [hg]; exact (below_size (by repeat (first | (with_reducible first | exact HB.out | apply below_alloc | apply pw_below_drewN | apply below_drew1 | refine below_set ?_ GE170.out | refine below_set ?_ GE171.out) | exact HB.out))) : w.heap.size ≤ gb189)); have n6_ := Aside0.mk ((by rw [hg]; exact Nat.ne_of_lt (blk_lt (g := gb170) (o := .cells #[.int .u64 a0_0, .int .u64 a0_1, .int .u64 a0_2, .string a0_3, .string a0_4] 28 (0, 0)) (by (with_reducible repeat (first | refine blk_drewN ?_ _ | refine blk_drew ?_ | refine blk_alloc ?_ _)); exact BK170.out)) : gb170 ≠ gb189)); have n7_ := Aside0.mk ((by rw [hg]; exact Nat.ne_of_gt (blk_lt (g := gb170) (o := .cells #[.int .u64 a0_0, .int .u64 a0_1, .int .u64 a0_2, .string a0_3, .string a0_4] 28 (0, 0)) (by (with_reducible repeat (first | refine blk_drewN ?_ _ | refine blk_drew ?_ | refine blk_alloc ?_ _)); exact BK170.out)) : gb189 ≠ gb170)); have n8_ := Aside0.mk ((by rw [hg]; exact Nat.ne_of_lt (blk_lt (g := gb171) (o := .cells #[.int .u64 t174, .int .u64 t175, .int .u64 t176, .string t177, .string t178] 28 (0, 0)) (by (with_reducible repeat (first | refine blk_drewN ?_ _ | refine blk_drew ?_ | refine blk_alloc ?_ _)); exact BK171.out)) : gb171 ≠ gb189)); have n9_ := Aside0.mk ((by rw [hg]; exact Nat.ne_of_gt (blk_lt (g := gb171) (o := .cells #[.int .u64 t174, .int .u64 t175, .int .u64 t176, .string t177, .string t178] 28 (0, 0)) (by (with_reducible repeat (first | refine blk_drewN ?_ _ | refine blk_drew ?_ | refine blk_alloc ?_ _)); exact BK171.out)) : gb189 ≠ gb171)); clear BK170; clear BK171; clear HB; have BK170 := n0_; have BK171 := n1_; have HB := n2_; have BK189 := n3_; have GW189 := n4_; have GE189 := n5_; have NB170_189 := n6_; have NB189_170 := n7_; have NB171_189 := n8_; have NB189_171 := n9_; clear n0_ n1_ n2_ n3_ n4_ n5_ n6_ n7_ n8_ n9_; clear hb hbox hg; have hnb51 := NB189_170.out; have hnc51 := NB170_189.out; have hnb52 := NB189_171.out; have hnc52 := NB171_189.out; have hcz53_0 : w50.cell? ⟨gb189, 0, none⟩ = some (.int .u64 0) := (blk_cell BK189.out 0).trans rfl; have hcz53_1 : w50.cell? ⟨gb189, 1, none⟩ = some (.int .u64 0) := (blk_cell BK189.out 1).trans rfl; have hcz53_2 : w50.cell? ⟨gb189, 2, none⟩ = some (.int .u64 0) := (blk_cell BK189.out 2).trans rfl; have hcz53_3 : w50.cell? ⟨gb189, 3, none⟩ = some (.string (⟨#[]⟩ : ByteArray)) := (blk_cell BK189.out 3).trans rfl; have hcz53_4 : w50.cell? ⟨gb189, 4, none⟩ = some (.string (⟨#[]⟩ : ByteArray)) := (blk_cell BK189.out 4).trans rfl; have hfz53_0 := blk_frozen BK189.out 0; have hfz53_1 := blk_frozen BK189.out 1; have hfz53_2 := blk_frozen BK189.out 2; have hfz53_3 := blk_frozen BK189.out 3; have hfz53_4 := blk_frozen BK189.out 4))
                have n0_ : Aside0 ((((((w50.setCell ⟨gb189, 0, none⟩ (.int .u64 t184)).setCell ⟨gb189, 1, none⟩ (.int .u64 t185)).setCell ⟨gb189, 2, none⟩ (.int .u64 t186)).setCell ⟨gb189, 3, none⟩ (.string t187)).setCell ⟨gb189, 4, none⟩ (.string t188)).heap[gb170]? = some (.cells #[.int .u64 a0_0, .int .u64 a0_1, .int .u64 a0_2, .string a0_3, .string a0_4] 28 (0, 0))) := ⟨by (with_reducible repeat (first | refine blk_drewN ?_ _ | refine blk_drew ?_ | refine blk_alloc ?_ _)); refine blk_far ?_ NB170_189.out _; (with_reducible repeat (first | refine blk_drewN ?_ _ | refine blk_drew ?_ | refine blk_alloc ?_ _)); refine blk_far ?_ NB170_189.out _; (with_reducible repeat (first | refine blk_drewN ?_ _ | refine blk_drew ?_ | refine blk_alloc ?_ _)); refine blk_far ?_ NB170_189.out _; (with_reducible repeat (first | refine blk_drewN ?_ _ | refine blk_drew ?_ | refine blk_alloc ?_ _)); refine blk_far ?_ NB170_189.out _; (with_reducible repeat (first | refine blk_drewN ?_ _ | refine blk_drew ?_ | refine blk_alloc ?_ _)); refine blk_far ?_ NB170_189.out _; (with_reducible repeat (first | refine blk_drewN ?_ _ | refine blk_drew ?_ | refine blk_alloc ?_ _)); exact BK170.out⟩
                have n1_ : Aside0 ((((((w50.setCell ⟨gb189, 0, none⟩ (.int .u64 t184)).setCell ⟨gb189, 1, none⟩ (.int .u64 t185)).setCell ⟨gb189, 2, none⟩ (.int .u64 t186)).setCell ⟨gb189, 3, none⟩ (.string t187)).setCell ⟨gb189, 4, none⟩ (.string t188)).heap[gb171]? = some (.cells #[.int .u64 t174, .int .u64 t175, .int .u64 t176, .string t177, .string t178] 28 (0, 0))) := ⟨by (with_reducible repeat (first | refine blk_drewN ?_ _ | refine blk_drew ?_ | refine blk_alloc ?_ _)); refine blk_far ?_ NB171_189.out _; (with_reducible repeat (first | refine blk_drewN ?_ _ | refine blk_drew ?_ | refine blk_alloc ?_ _)); refine blk_far ?_ NB171_189.out _; (with_reducible repeat (first | refine blk_drewN ?_ _ | refine blk_drew ?_ | refine blk_alloc ?_ _)); refine blk_far ?_ NB171_189.out _; (with_reducible repeat (first | refine blk_drewN ?_ _ | refine blk_drew ?_ | refine blk_alloc ?_ _)); refine blk_far ?_ NB171_189.out _; (with_reducible repeat (first | refine blk_drewN ?_ _ | refine blk_drew ?_ | refine blk_alloc ?_ _)); refine blk_far ?_ NB171_189.out _; (with_reducible repeat (first | refine blk_drewN ?_ _ | refine blk_drew ?_ | refine blk_alloc ?_ _)); exact BK171.out⟩
                have n2_ : Aside0 ((((((w50.setCell ⟨gb189, 0, none⟩ (.int .u64 t184)).setCell ⟨gb189, 1, none⟩ (.int .u64 t185)).setCell ⟨gb189, 2, none⟩ (.int .u64 t186)).setCell ⟨gb189, 3, none⟩ (.string t187)).setCell ⟨gb189, 4, none⟩ (.string t188)).heap[gb189]? = some (.cells #[.int .u64 t184, .int .u64 t185, .int .u64 t186, .string t187, .string t188] 28 (0, 0))) := ⟨by (with_reducible repeat (first | refine blk_drewN ?_ _ | refine blk_drew ?_ | refine blk_alloc ?_ _)); refine blk_put (cs := #[.int .u64 t184, .int .u64 t185, .int .u64 t186, .string t187, .string (⟨#[]⟩ : ByteArray)]) ?_ 4 _ rfl; (with_reducible repeat (first | refine blk_drewN ?_ _ | refine blk_drew ?_ | refine blk_alloc ?_ _)); refine blk_put (cs := #[.int .u64 t184, .int .u64 t185, .int .u64 t186, .string (⟨#[]⟩ : ByteArray), .string (⟨#[]⟩ : ByteArray)]) ?_ 3 _ rfl; (with_reducible repeat (first | refine blk_drewN ?_ _ | refine blk_drew ?_ | refine blk_alloc ?_ _)); refine blk_put (cs := #[.int .u64 t184, .int .u64 t185, .int .u64 0, .string (⟨#[]⟩ : ByteArray), .string (⟨#[]⟩ : ByteArray)]) ?_ 2 _ rfl; (with_reducible repeat (first | refine blk_drewN ?_ _ | refine blk_drew ?_ | refine blk_alloc ?_ _)); refine blk_put (cs := #[.int .u64 t184, .int .u64 0, .int .u64 0, .string (⟨#[]⟩ : ByteArray), .string (⟨#[]⟩ : ByteArray)]) ?_ 1 _ rfl; (with_reducible repeat (first | refine blk_drewN ?_ _ | refine blk_drew ?_ | refine blk_alloc ?_ _)); refine blk_put (cs := #[.int .u64 0, .int .u64 0, .int .u64 0, .string (⟨#[]⟩ : ByteArray), .string (⟨#[]⟩ : ByteArray)]) ?_ 0 _ rfl; (with_reducible repeat (first | refine blk_drewN ?_ _ | refine blk_drew ?_ | refine blk_alloc ?_ _)); exact BK189.out⟩
                have n3_ : Aside0 (Below w.heap.size w (((((w50.setCell ⟨gb189, 0, none⟩ (.int .u64 t184)).setCell ⟨gb189, 1, none⟩ (.int .u64 t185)).setCell ⟨gb189, 2, none⟩ (.int .u64 t186)).setCell ⟨gb189, 3, none⟩ (.string t187)).setCell ⟨gb189, 4, none⟩ (.string t188))) := ⟨by repeat (first | (with_reducible first | exact HB.out | apply below_alloc | apply pw_below_drewN | apply below_drew1 | refine below_set ?_ GE170.out | refine below_set ?_ GE171.out | refine below_set ?_ GE189.out) | exact HB.out)⟩
                (try clear BK170)
                (try clear BK171)
                (try clear BK189)
                (try clear HB)
                generalize (((((w50.setCell ⟨gb189, 0, none⟩ (.int .u64 t184)).setCell ⟨gb189, 1, none⟩ (.int .u64 t185)).setCell ⟨gb189, 2, none⟩ (.int .u64 t186)).setCell ⟨gb189, 3, none⟩ (.string t187)).setCell ⟨gb189, 4, none⟩ (.string t188)) = w54 at n0_ n1_ n2_ n3_ ⊢
                have BK170 := n0_
                have BK171 := n1_
                have BK189 := n2_
                have HB := n3_
                clear n0_ n1_ n2_ n3_
                have n0_ := Aside0.mk (blk_drew BK170.out)
                have n1_ := Aside0.mk (blk_drew BK171.out)
                have n2_ := Aside0.mk (blk_drew BK189.out)
                have n3_ := Aside0.mk (below_drew1 HB.out)
                clear BK170
                clear BK171
                clear BK189
                clear HB
                have BK170 := n0_
                have BK171 := n1_
                have BK189 := n2_
                have HB := n3_
                clear n0_ n1_ n2_ n3_
                refine start_ (n := 13) (S := fun w' => w'.cell? ⟨gb170, 0, none⟩ = some (.int .u64 a0_0) ∧ w'.cell? ⟨gb170, 1, none⟩ = some (.int .u64 a0_1) ∧ w'.cell? ⟨gb170, 2, none⟩ = some (.int .u64 a0_2) ∧ w'.cell? ⟨gb170, 3, none⟩ = some (.string a0_3) ∧ w'.cell? ⟨gb170, 4, none⟩ = some (.string a0_4) ∧ w'.cell? ⟨gb189, 0, none⟩ = some (.int .u64 t184) ∧ w'.cell? ⟨gb189, 1, none⟩ = some (.int .u64 t185) ∧ w'.cell? ⟨gb189, 2, none⟩ = some (.int .u64 t186) ∧ w'.cell? ⟨gb189, 3, none⟩ = some (.string t187) ∧ w'.cell? ⟨gb189, 4, none⟩ = some (.string t188) ∧ w'.cell? ⟨gb171, 0, none⟩ = some (.int .u64 t174) ∧ w'.cell? ⟨gb171, 1, none⟩ = some (.int .u64 t175) ∧ w'.cell? ⟨gb171, 2, none⟩ = some (.int .u64 t176) ∧ w'.cell? ⟨gb171, 3, none⟩ = some (.string t177) ∧ w'.cell? ⟨gb171, 4, none⟩ = some (.string t178)) (ds := []) #[false, false, false, false, false, false, false, false, false, false, false, false, false] (by kernel_rfl) rfl rfl ⟨(blk_cell BK170.out 0).trans rfl, (blk_cell BK170.out 1).trans rfl, (blk_cell BK170.out 2).trans rfl, (blk_cell BK170.out 3).trans rfl, (blk_cell BK170.out 4).trans rfl, (blk_cell BK189.out 0).trans rfl, (blk_cell BK189.out 1).trans rfl, (blk_cell BK189.out 2).trans rfl, (blk_cell BK189.out 3).trans rfl, (blk_cell BK189.out 4).trans rfl, (blk_cell BK171.out 0).trans rfl, (blk_cell BK171.out 1).trans rfl, (blk_cell BK171.out 2).trans rfl, (blk_cell BK171.out 3).trans rfl, (blk_cell BK171.out 4).trans rfl⟩ (fun hHeld => ?_); refine with_tabW laws_FnSemverIncPatchLeast.tab7 laws_FnSemverIncPatchLeast.bits7 (fun HT_ HW_ => ?_)
                generalize w54.drew = w55 at BK170 BK171 BK189 HB hHeld ⊢
                refine take_ (i := 0) (N := some 27) (v := ?_) (a' := ?_) #[true, false, false, false, false, false, false, false, false, false, false, false, false] rfl rfl (take_ofW HT_.out HW_.out (by kernel_rfl)) (fun _ _ _ h => h) (Or.inl ⟨by rfl, ?_⟩) hHeld ?_ ?_
                rotate_left
                · rintro w' ⟨s0, s1, s2, s3, s4, s5, s6, s7, s8, s9, s10, s11, s12, s13, s14⟩
                  go_simp
                  with_reducible rfl
                rotate_left
                · simp only [Act.put, List.setIfInBounds_toArray, List.set_cons_zero, List.set_cons_succ, i64_w, i32_w]
                  rfl
                refine take_ (i := 1) (N := some 28) (v := ?_) (a' := ?_) #[true, true, false, false, false, false, false, false, false, false, false, false, false] rfl rfl (take_ofW HT_.out HW_.out (by kernel_rfl)) (fun _ _ _ h => h) (Or.inl ⟨by rfl, ?_⟩) hHeld ?_ ?_
                rotate_left
                · rintro w' ⟨s0, s1, s2, s3, s4, s5, s6, s7, s8, s9, s10, s11, s12, s13, s14⟩
                  go_simp
                  with_reducible rfl
                rotate_left
                · simp only [Act.put, List.setIfInBounds_toArray, List.set_cons_zero, List.set_cons_succ, i64_w, i32_w]
                  rfl
                refine one_ (i := 2) (N := some 29) #[true, true, true, false, false, false, false, false, false, false, false, false, false] rfl rfl (one_of HT_.out (by kernel_rfl)) (by decide) (fun K hK => ?_)
                refine goes_ Tryd.func25 (by kernel_rfl) rfl #[.agg #[.int .u64 a0_0, .int .u64 a0_1, .int .u64 a0_2, .string a0_3, .string a0_4], .agg #[.int .u64 t184, .int .u64 t185, .int .u64 t186, .string t187, .string t188]] (by rfl) rfl rfl (by (try simp only [List.map_toArray, List.map_cons, List.map_nil]); first | done | rfl | (simp only [List.length_drop, List.length_take]; rfl)) ?_
                with_reducible refine (impl_VersionLess.calls a0_0 a0_1 a0_2 a0_3 a0_4 t184 t185 t186 t187 t188 true _ ?side1 A43.out).mono ?_
                (case side1 => exact HStd.out.below (by repeat (first | (with_reducible first | exact HB.out | apply below_alloc | apply pw_below_drewN | apply below_drew1 | refine below_set ?_ GE170.out | refine below_set ?_ GE171.out | refine below_set ?_ GE189.out) | exact HB.out)))
                rintro e w56 ⟨rfl, hb⟩
                refine ⟨_, rfl, ?_⟩
                have n0_ := Aside0.mk (blk_below (g := gb170) (o := .cells #[.int .u64 a0_0, .int .u64 a0_1, .int .u64 a0_2, .string a0_3, .string a0_4] 28 (0, 0)) (by (with_reducible repeat (first | refine blk_drewN ?_ _ | refine blk_drew ?_ | refine blk_alloc ?_ _)); exact BK170.out) hb)
                have n1_ := Aside0.mk (blk_below (g := gb171) (o := .cells #[.int .u64 t174, .int .u64 t175, .int .u64 t176, .string t177, .string t178] 28 (0, 0)) (by (with_reducible repeat (first | refine blk_drewN ?_ _ | refine blk_drew ?_ | refine blk_alloc ?_ _)); exact BK171.out) hb)
                have n2_ := Aside0.mk (blk_below (g := gb189) (o := .cells #[.int .u64 t184, .int .u64 t185, .int .u64 t186, .string t187, .string t188] 28 (0, 0)) (by (with_reducible repeat (first | refine blk_drewN ?_ _ | refine blk_drew ?_ | refine blk_alloc ?_ _)); exact BK189.out) hb)
                have n3_ := Aside0.mk (below_step (by repeat (first | (with_reducible first | exact HB.out | apply below_alloc | apply pw_below_drewN | apply below_drew1 | refine below_set ?_ GE170.out | refine below_set ?_ GE171.out | refine below_set ?_ GE189.out) | exact HB.out)) hb)
                clear BK170
                clear BK171
                clear BK189
                clear HB
                have BK170 := n0_
                have BK171 := n1_
                have BK189 := n2_
                have HB := n3_
                clear n0_ n1_ n2_ n3_
                (try clear hb)
                (try clear hb2)
                (try clear hk)
                (try clear hi)
                refine hK.out _ _ ⟨(blk_cell BK170.out 0).trans rfl, (blk_cell BK170.out 1).trans rfl, (blk_cell BK170.out 2).trans rfl, (blk_cell BK170.out 3).trans rfl, (blk_cell BK170.out 4).trans rfl, (blk_cell BK189.out 0).trans rfl, (blk_cell BK189.out 1).trans rfl, (blk_cell BK189.out 2).trans rfl, (blk_cell BK189.out 3).trans rfl, (blk_cell BK189.out 4).trans rfl, (blk_cell BK171.out 0).trans rfl, (blk_cell BK171.out 1).trans rfl, (blk_cell BK171.out 2).trans rfl, (blk_cell BK171.out 3).trans rfl, (blk_cell BK171.out 4).trans rfl⟩ (fun hHeld => ?_)
                clear hK K
                refine norm_ (a' := ?_) ?_ ?_
                rotate_left
                · show Act.put _ (some 29) _ = _
                  simp only [Act.put, List.setIfInBounds_toArray, List.set_cons_zero, List.set_cons_succ, i64_w, i32_w]
                  rfl
                refine pure_ (i := 3) (N := some 30) (v := ?_) (a' := ?_) #[true, true, true, true, false, false, false, false, false, false, false, false, false] rfl rfl (any_of HT_.out (by kernel_rfl)) (fun _ _ _ h => h) (Or.inl ⟨by rfl, ?_⟩) ?_ ?_
                rotate_left
                · intro w'
                  go_simp
                  with_reducible rfl
                rotate_left
                · simp only [Act.put, List.setIfInBounds_toArray, List.set_cons_zero, List.set_cons_succ, i64_w, i32_w]
                  rfl
                refine take_ (i := 4) (N := some 31) (v := ?_) (a' := ?_) #[true, true, true, true, true, false, false, false, false, false, false, false, false] rfl rfl (take_ofW HT_.out HW_.out (by kernel_rfl)) (fun _ _ _ h => h) (Or.inl ⟨by rfl, ?_⟩) hHeld ?_ ?_
                rotate_left
                · rintro w' ⟨s0, s1, s2, s3, s4, s5, s6, s7, s8, s9, s10, s11, s12, s13, s14⟩
                  go_simp
                  with_reducible rfl
                rotate_left
                · simp only [Act.put, List.setIfInBounds_toArray, List.set_cons_zero, List.set_cons_succ, i64_w, i32_w]
                  rfl
                refine take_ (i := 5) (N := some 32) (v := ?_) (a' := ?_) #[true, true, true, true, true, true, false, false, false, false, false, false, false] rfl rfl (take_ofW HT_.out HW_.out (by kernel_rfl)) (fun _ _ _ h => h) (Or.inl ⟨by rfl, ?_⟩) hHeld ?_ ?_
                rotate_left
                · rintro w' ⟨s0, s1, s2, s3, s4, s5, s6, s7, s8, s9, s10, s11, s12, s13, s14⟩
                  go_simp
                  with_reducible rfl
                rotate_left
                · simp only [Act.put, List.setIfInBounds_toArray, List.set_cons_zero, List.set_cons_succ, i64_w, i32_w]
                  rfl
                refine take_ (i := 7) (N := some 34) (v := ?_) (a' := ?_) #[true, true, true, true, true, true, false, true, false, false, false, false, false] rfl rfl (take_ofW HT_.out HW_.out (by kernel_rfl)) (fun _ _ _ h => h) (Or.inl ⟨by rfl, ?_⟩) hHeld ?_ ?_
                rotate_left
                · rintro w' ⟨s0, s1, s2, s3, s4, s5, s6, s7, s8, s9, s10, s11, s12, s13, s14⟩
                  go_simp
                  with_reducible rfl
                rotate_left
                · simp only [Act.put, List.setIfInBounds_toArray, List.set_cons_zero, List.set_cons_succ, i64_w, i32_w]
                  rfl
                refine take_ (i := 8) (N := some 35) (v := ?_) (a' := ?_) #[true, true, true, true, true, true, false, true, true, false, false, false, false] rfl rfl (take_ofW HT_.out HW_.out (by kernel_rfl)) (fun _ _ _ h => h) (Or.inl ⟨by rfl, ?_⟩) hHeld ?_ ?_
                rotate_left
                · rintro w' ⟨s0, s1, s2, s3, s4, s5, s6, s7, s8, s9, s10, s11, s12, s13, s14⟩
                  go_simp
                  with_reducible rfl
                rotate_left
                · simp only [Act.put, List.setIfInBounds_toArray, List.set_cons_zero, List.set_cons_succ, i64_w, i32_w]
                  rfl
                refine one_ (i := 6) (N := some 33) #[true, true, true, true, true, true, true, true, true, false, false, false, false] rfl rfl (one_of HT_.out (by kernel_rfl)) (by decide) (fun K hK => ?_)
                refine goes_ Tryd.func25 (by kernel_rfl) rfl #[.agg #[.int .u64 a0_0, .int .u64 a0_1, .int .u64 a0_2, .string a0_3, .string a0_4], .agg #[.int .u64 t174, .int .u64 t175, .int .u64 t176, .string t177, .string t178]] (by rfl) rfl rfl (by (try simp only [List.map_toArray, List.map_cons, List.map_nil]); first | done | rfl | (simp only [List.length_drop, List.length_take]; rfl)) ?_
                with_reducible refine (impl_VersionLess.calls a0_0 a0_1 a0_2 a0_3 a0_4 t174 t175 t176 t177 t178 t191 _ ?side1 A45.out).mono ?_
                (case side1 => exact HStd.out.below (by repeat (first | (with_reducible first | exact HB.out | apply below_alloc | apply pw_below_drewN | apply below_drew1 | refine below_set ?_ GE170.out | refine below_set ?_ GE171.out | refine below_set ?_ GE189.out) | exact HB.out)))
                rintro e w57 ⟨rfl, hb⟩
                refine ⟨_, rfl, ?_⟩
                have n0_ := Aside0.mk (blk_below (g := gb170) (o := .cells #[.int .u64 a0_0, .int .u64 a0_1, .int .u64 a0_2, .string a0_3, .string a0_4] 28 (0, 0)) (by (with_reducible repeat (first | refine blk_drewN ?_ _ | refine blk_drew ?_ | refine blk_alloc ?_ _)); exact BK170.out) hb)
                have n1_ := Aside0.mk (blk_below (g := gb171) (o := .cells #[.int .u64 t174, .int .u64 t175, .int .u64 t176, .string t177, .string t178] 28 (0, 0)) (by (with_reducible repeat (first | refine blk_drewN ?_ _ | refine blk_drew ?_ | refine blk_alloc ?_ _)); exact BK171.out) hb)
                have n2_ := Aside0.mk (blk_below (g := gb189) (o := .cells #[.int .u64 t184, .int .u64 t185, .int .u64 t186, .string t187, .string t188] 28 (0, 0)) (by (with_reducible repeat (first | refine blk_drewN ?_ _ | refine blk_drew ?_ | refine blk_alloc ?_ _)); exact BK189.out) hb)
                have n3_ := Aside0.mk (below_step (by repeat (first | (with_reducible first | exact HB.out | apply below_alloc | apply pw_below_drewN | apply below_drew1 | refine below_set ?_ GE170.out | refine below_set ?_ GE171.out | refine below_set ?_ GE189.out) | exact HB.out)) hb)
                clear BK170
                clear BK171
                clear BK189
                clear HB
                have BK170 := n0_
                have BK171 := n1_
                have BK189 := n2_
                have HB := n3_
                clear n0_ n1_ n2_ n3_
                (try clear hb)
                (try clear hb2)
                (try clear hk)
                (try clear hi)
                refine hK.out _ _ ⟨(blk_cell BK170.out 0).trans rfl, (blk_cell BK170.out 1).trans rfl, (blk_cell BK170.out 2).trans rfl, (blk_cell BK170.out 3).trans rfl, (blk_cell BK170.out 4).trans rfl, (blk_cell BK189.out 0).trans rfl, (blk_cell BK189.out 1).trans rfl, (blk_cell BK189.out 2).trans rfl, (blk_cell BK189.out 3).trans rfl, (blk_cell BK189.out 4).trans rfl, (blk_cell BK171.out 0).trans rfl, (blk_cell BK171.out 1).trans rfl, (blk_cell BK171.out 2).trans rfl, (blk_cell BK171.out 3).trans rfl, (blk_cell BK171.out 4).trans rfl⟩ (fun hHeld => ?_)
                clear hK K
                refine norm_ (a' := ?_) ?_ ?_
                rotate_left
                · show Act.put _ (some 33) _ = _
                  simp only [Act.put, List.setIfInBounds_toArray, List.set_cons_zero, List.set_cons_succ, i64_w, i32_w]
                  rfl
                refine one_ (i := 9) (N := some 36) #[true, true, true, true, true, true, true, true, true, true, false, false, false] rfl rfl (one_of HT_.out (by kernel_rfl)) (by decide) (fun K hK => ?_)
                refine goes_ Tryd.func28 (by kernel_rfl) rfl #[.agg #[.int .u64 t184, .int .u64 t185, .int .u64 t186, .string t187, .string t188], .agg #[.int .u64 t174, .int .u64 t175, .int .u64 t176, .string t177, .string t178]] (by rfl) rfl rfl (by (try simp only [List.map_toArray, List.map_cons, List.map_nil]); first | done | rfl | (simp only [List.length_drop, List.length_take]; rfl)) ?_
                with_reducible refine (impl_VersionLessEqual.calls t184 t185 t186 t187 t188 t174 t175 t176 t177 t178 t192 _ ?side1 A46.out).mono ?_
                (case side1 => exact HStd.out.below (by repeat (first | (with_reducible first | exact HB.out | apply below_alloc | apply pw_below_drewN | apply below_drew1 | refine below_set ?_ GE170.out | refine below_set ?_ GE171.out | refine below_set ?_ GE189.out) | exact HB.out)))
                rintro e w58 ⟨rfl, hb⟩
                refine ⟨_, rfl, ?_⟩
                have n0_ := Aside0.mk (blk_below (g := gb170) (o := .cells #[.int .u64 a0_0, .int .u64 a0_1, .int .u64 a0_2, .string a0_3, .string a0_4] 28 (0, 0)) (by (with_reducible repeat (first | refine blk_drewN ?_ _ | refine blk_drew ?_ | refine blk_alloc ?_ _)); exact BK170.out) hb)
                have n1_ := Aside0.mk (blk_below (g := gb171) (o := .cells #[.int .u64 t174, .int .u64 t175, .int .u64 t176, .string t177, .string t178] 28 (0, 0)) (by (with_reducible repeat (first | refine blk_drewN ?_ _ | refine blk_drew ?_ | refine blk_alloc ?_ _)); exact BK171.out) hb)
                have n2_ := Aside0.mk (blk_below (g := gb189) (o := .cells #[.int .u64 t184, .int .u64 t185, .int .u64 t186, .string t187, .string t188] 28 (0, 0)) (by (with_reducible repeat (first | refine blk_drewN ?_ _ | refine blk_drew ?_ | refine blk_alloc ?_ _)); exact BK189.out) hb)
                have n3_ := Aside0.mk (below_step (by repeat (first | (with_reducible first | exact HB.out | apply below_alloc | apply pw_below_drewN | apply below_drew1 | refine below_set ?_ GE170.out | refine below_set ?_ GE171.out | refine below_set ?_ GE189.out) | exact HB.out)) hb)
                clear BK170
                clear BK171
                clear BK189
                clear HB
                have BK170 := n0_
                have BK171 := n1_
                have BK189 := n2_
                have HB := n3_
                clear n0_ n1_ n2_ n3_
                (try clear hb)
                (try clear hb2)
                (try clear hk)
                (try clear hi)
                refine hK.out _ _ ⟨(blk_cell BK170.out 0).trans rfl, (blk_cell BK170.out 1).trans rfl, (blk_cell BK170.out 2).trans rfl, (blk_cell BK170.out 3).trans rfl, (blk_cell BK170.out 4).trans rfl, (blk_cell BK189.out 0).trans rfl, (blk_cell BK189.out 1).trans rfl, (blk_cell BK189.out 2).trans rfl, (blk_cell BK189.out 3).trans rfl, (blk_cell BK189.out 4).trans rfl, (blk_cell BK171.out 0).trans rfl, (blk_cell BK171.out 1).trans rfl, (blk_cell BK171.out 2).trans rfl, (blk_cell BK171.out 3).trans rfl, (blk_cell BK171.out 4).trans rfl⟩ (fun hHeld => ?_)
                clear hK K
                refine norm_ (a' := ?_) ?_ ?_
                rotate_left
                · show Act.put _ (some 36) _ = _
                  simp only [Act.put, List.setIfInBounds_toArray, List.set_cons_zero, List.set_cons_succ, i64_w, i32_w]
                  rfl
                refine pure_ (i := 10) (N := some 37) (v := ?_) (a' := ?_) #[true, true, true, true, true, true, true, true, true, true, true, false, false] rfl rfl (any_of HT_.out (by kernel_rfl)) (fun _ _ _ h => h) (Or.inl ⟨by rfl, ?_⟩) ?_ ?_
                rotate_left
                · intro w'
                  go_simp
                  with_reducible rfl
                rotate_left
                · simp only [Act.put, List.setIfInBounds_toArray, List.set_cons_zero, List.set_cons_succ, i64_w, i32_w]
                  rfl
                refine pure_ (i := 11) (N := some 38) (v := ?_) (a' := ?_) #[true, true, true, true, true, true, true, true, true, true, true, true, false] rfl rfl (any_of HT_.out (by kernel_rfl)) (fun _ _ _ h => h) (Or.inl ⟨by rfl, ?_⟩) ?_ ?_
                rotate_left
                · intro w'
                  go_simp
                  with_reducible rfl
                rotate_left
                · simp only [Act.put, List.setIfInBounds_toArray, List.set_cons_zero, List.set_cons_succ, i64_w, i32_w]
                  rfl
                refine pure_ (i := 12) (N := some 4) (v := ?_) (a' := ?_) #[true, true, true, true, true, true, true, true, true, true, true, true, true] rfl rfl (any_of HT_.out (by kernel_rfl)) (fun _ _ _ h => h) (Or.inl ⟨by rfl, ?_⟩) ?_ ?_
                rotate_left
                · intro w'
                  go_simp
                  with_reducible rfl
                rotate_left
                · simp only [Act.put, List.setIfInBounds_toArray, List.set_cons_zero, List.set_cons_succ, i64_w, i32_w]
                  rfl
                refine done_ (done_of HT_.out (by kernel_rfl)) ?_
                try go_wp2
                go_ret
                exact ⟨by first | rfl | (simp [errW_none, errW_some] <;> rfl) | (simp [*, errW_none, errW_some] <;> rfl) | (simp [bneNil]; done), by repeat (first | (with_reducible first | exact HB.out | apply below_alloc | apply pw_below_drewN | apply below_drew1 | refine below_set ?_ GE170.out | refine below_set ?_ GE171.out | refine below_set ?_ GE189.out) | exact HB.out)⟩
              · replace c44 := Bool.eq_false_iff.mpr c44
                subst c44
                have H1 : (some false) = some r := by rw [if_neg (show ¬ (false = true) by decide)] at H; exact H
                clear H
                have H := H1
                clear H1
                obtain rfl := Option.some.inj H
                have hnb59 := NB170_171.out
                have hnc59 := NB171_170.out
                have hcz60_0 : wc.cell? ⟨gb170, 0, none⟩ = some (.int .u64 a0_0) := (blk_cell BK170.out 0).trans rfl
                have hcz60_1 : wc.cell? ⟨gb170, 1, none⟩ = some (.int .u64 a0_1) := (blk_cell BK170.out 1).trans rfl
                have hcz60_2 : wc.cell? ⟨gb170, 2, none⟩ = some (.int .u64 a0_2) := (blk_cell BK170.out 2).trans rfl
                have hcz60_3 : wc.cell? ⟨gb170, 3, none⟩ = some (.string a0_3) := (blk_cell BK170.out 3).trans rfl
                have hcz60_4 : wc.cell? ⟨gb170, 4, none⟩ = some (.string a0_4) := (blk_cell BK170.out 4).trans rfl
                have hfz60_0 := blk_frozen BK170.out 0
                have hfz60_1 := blk_frozen BK170.out 1
                have hfz60_2 := blk_frozen BK170.out 2
                have hfz60_3 := blk_frozen BK170.out 3
                have hfz60_4 := blk_frozen BK170.out 4
                try go_wp2_with (first | ((with_reducible refine gate_callee (f := 27) rfl ?_); refine goesL_ (some 26) rfl rfl Tryd.func27 (by kernel_rfl) rfl #[.agg #[.int .u64 a0_0, .int .u64 a0_1, .int .u64 a0_2, .string a0_3, .string a0_4]] rfl (by (try simp only [List.map_toArray, List.map_cons, List.map_nil]); first | done | rfl | (simp only [List.length_drop, List.length_take]; rfl)) ?_; (with_reducible refine (impl_VersionIncPatch.calls a0_0 a0_1 a0_2 a0_3 a0_4 t184 t185 t186 t187 t188 _ ?side1 A42.out).mono ?_); (case side1 => exact HPow.out.below (by repeat (first | (with_reducible first | exact HB.out | apply below_alloc | apply pw_below_drewN | apply below_drew1 | refine below_set ?_ GE170.out | refine below_set ?_ GE171.out) | exact HB.out))); rintro e w61 ⟨rfl, hb⟩; refine ⟨_, rfl, ?_⟩; have n0_ := Aside0.mk (blk_below (g := gb170) (o := .cells #[.int .u64 a0_0, .int .u64 a0_1, .int .u64 a0_2, .string a0_3, .string a0_4] 28 (0, 0)) (by (with_reducible repeat (first | refine blk_drewN ?_ _ | refine blk_drew ?_ | refine blk_alloc ?_ _)); exact BK170.out) hb); have n1_ := Aside0.mk (blk_below (g := gb171) (o := .cells #[.int .u64 t174, .int .u64 t175, .int .u64 t176, .string t177, .string t178] 28 (0, 0)) (by (with_reducible repeat (first | refine blk_drewN ?_ _ | refine blk_drew ?_ | refine blk_alloc ?_ _)); exact BK171.out) hb); have n2_ := Aside0.mk (below_step (by repeat (first | (with_reducible first | exact HB.out | apply below_alloc | apply pw_below_drewN | apply below_drew1 | refine below_set ?_ GE170.out | refine below_set ?_ GE171.out) | exact HB.out)) hb); clear BK170; clear BK171; clear HB; have BK170 := n0_; have BK171 := n1_; have HB := n2_; clear n0_ n1_ n2_; (try clear hb); (try clear hb2); (try clear hk); (try clear hi)) | ((with_reducible refine gate_dst (N := 5) rfl ?_); refine box_event ?hg (N := 5) ?hd (cs := #[.int .u64 0, .int .u64 0, .int .u64 0, .string (⟨#[]⟩ : ByteArray), .string (⟨#[]⟩ : ByteArray)]) (t := 28) ?hr ?_; (case hd => rfl); (case hg => rfl); (case hr => first | (go_simp; done) | (go_simp; rfl) | (go_simp; simp [u8w]; done)); intro gb189 hg w62 hbox hb; have n0_ := Aside0.mk (blk_below (g := gb170) (o := .cells #[.int .u64 a0_0, .int .u64 a0_1, .int .u64 a0_2, .string a0_3, .string a0_4] 28 (0, 0)) (by (with_reducible repeat (first | refine blk_drewN ?_ _ | refine blk_drew ?_ | refine blk_alloc ?_ _)); exact BK170.out) hb); have n1_ := Aside0.mk (blk_below (g := gb171) (o := .cells #[.int .u64 t174, .int .u64 t175, .int .u64 t176, .string t177, .string t178] 28 (0, 0)) (by (with_reducible repeat (first | refine blk_drewN ?_ _ | refine blk_drew ?_ | refine blk_alloc ?_ _)); exact BK171.out) hb); have n2_ := Aside0.mk (below_step (by repeat (first | (with_reducible first | exact HB.out | apply below_alloc | apply pw_below_drewN | apply below_drew1 | refine below_set ?_ GE170.out | refine below_set ?_ GE171.out) | exact HB.out)) hb); have n3_ := Aside0.mk (hbox); have n4_ := Aside0.mk ((by rw [hg]; exact (below_size (by repeat (first | (with_reducible first | exact HB.out | apply below_alloc | apply pw_below_drewN | apply below_drew1 | refine below_set ?_ GE170.out | refine below_set ?_ GE171.out) | exact HB.out))) : w.heap.size ≤ gb189)); have n5_ := Aside0.mk ((by rw [hg]; exact (below_size (by repeat (first | (with_reducible first | exact HB.out | apply below_alloc | apply pw_below_drewN | apply below_drew1 | refine below_set ?_ GE170.out | refine below_set ?_ GE171.out) | exact HB.out))) : w.heap.size ≤ gb189)); have n6_ := Aside0.mk ((by rw [hg]; exact Nat.ne_of_lt (blk_lt (g := gb170) (o := .cells #[.int .u64 a0_0, .int .u64 a0_1, .int .u64 a0_2, .string a0_3, .string a0_4] 28 (0, 0)) (by (with_reducible repeat (first | refine blk_drewN ?_ _ | refine blk_drew ?_ | refine blk_alloc ?_ _)); exact BK170.out)) : gb170 ≠ gb189)); have n7_ := Aside0.mk ((by rw [hg]; exact Nat.ne_of_gt (blk_lt (g := gb170) (o := .cells #[.int .u64 a0_0, .int .u64 a0_1, .int .u64 a0_2, .string a0_3, .string a0_4] 28 (0, 0)) (by (with_reducible repeat (first | refine blk_drewN ?_ _ | refine blk_drew ?_ | refine blk_alloc ?_ _)); exact BK170.out)) : gb189 ≠ gb170)); have n8_ := Aside0.mk ((by rw [hg]; exact Nat.ne_of_lt (blk_lt (g := gb171) (o := .cells #[.int .u64 t174, .int .u64 t175, .int .u64 t176, .string t177, .string t178] 28 (0, 0)) (by (with_reducible repeat (first | refine blk_drewN ?_ _ | refine blk_drew ?_ | refine blk_alloc ?_ _)); exact BK171.out)) : gb171 ≠ gb189)); have n9_ := Aside0.mk ((by rw [hg]; exact Nat.ne_of_gt (blk_lt (g := gb171) (o := .cells #[.int .u64 t174, .int .u64 t175, .int .u64 t176, .string t177, .string t178] 28 (0, 0)) (by (with_reducible repeat (first | refine blk_drewN ?_ _ | refine blk_drew ?_ | refine blk_alloc ?_ _)); exact BK171.out)) : gb189 ≠ gb171)); clear BK170; clear BK171; clear HB; have BK170 := n0_; have BK171 := n1_; have HB := n2_; have BK189 := n3_; have GW189 := n4_; have GE189 := n5_; have NB170_189 := n6_; have NB189_170 := n7_; have NB171_189 := n8_; have NB189_171 := n9_; clear n0_ n1_ n2_ n3_ n4_ n5_ n6_ n7_ n8_ n9_; clear hb hbox hg; have hnb63 := NB189_170.out; have hnc63 := NB170_189.out; have hnb64 := NB189_171.out; have hnc64 := NB171_189.out; have hcz65_0 : w62.cell? ⟨gb189, 0, none⟩ = some (.int .u64 0) := (blk_cell BK189.out 0).trans rfl; have hcz65_1 : w62.cell? ⟨gb189, 1, none⟩ = some (.int .u64 0) := (blk_cell BK189.out 1).trans rfl; have hcz65_2 : w62.cell? ⟨gb189, 2, none⟩ = some (.int .u64 0) := (blk_cell BK189.out 2).trans rfl; have hcz65_3 : w62.cell? ⟨gb189, 3, none⟩ = some (.string (⟨#[]⟩ : ByteArray)) := (blk_cell BK189.out 3).trans rfl; have hcz65_4 : w62.cell? ⟨gb189, 4, none⟩ = some (.string (⟨#[]⟩ : ByteArray)) := (blk_cell BK189.out 4).trans rfl; have hfz65_0 := blk_frozen BK189.out 0; have hfz65_1 := blk_frozen BK189.out 1; have hfz65_2 := blk_frozen BK189.out 2; have hfz65_3 := blk_frozen BK189.out 3; have hfz65_4 := blk_frozen BK189.out 4))
                have n0_ : Aside0 ((((((w62.setCell ⟨gb189, 0, none⟩ (.int .u64 t184)).setCell ⟨gb189, 1, none⟩ (.int .u64 t185)).setCell ⟨gb189, 2, none⟩ (.int .u64 t186)).setCell ⟨gb189, 3, none⟩ (.string t187)).setCell ⟨gb189, 4, none⟩ (.string t188)).heap[gb170]? = some (.cells #[.int .u64 a0_0, .int .u64 a0_1, .int .u64 a0_2, .string a0_3, .string a0_4] 28 (0, 0))) := ⟨by (with_reducible repeat (first | refine blk_drewN ?_ _ | refine blk_drew ?_ | refine blk_alloc ?_ _)); refine blk_far ?_ NB170_189.out _; (with_reducible repeat (first | refine blk_drewN ?_ _ | refine blk_drew ?_ | refine blk_alloc ?_ _)); refine blk_far ?_ NB170_189.out _; (with_reducible repeat (first | refine blk_drewN ?_ _ | refine blk_drew ?_ | refine blk_alloc ?_ _)); refine blk_far ?_ NB170_189.out _; (with_reducible repeat (first | refine blk_drewN ?_ _ | refine blk_drew ?_ | refine blk_alloc ?_ _)); refine blk_far ?_ NB170_189.out _; (with_reducible repeat (first | refine blk_drewN ?_ _ | refine blk_drew ?_ | refine blk_alloc ?_ _)); refine blk_far ?_ NB170_189.out _; (with_reducible repeat (first | refine blk_drewN ?_ _ | refine blk_drew ?_ | refine blk_alloc ?_ _)); exact BK170.out⟩
                have n1_ : Aside0 ((((((w62.setCell ⟨gb189, 0, none⟩ (.int .u64 t184)).setCell ⟨gb189, 1, none⟩ (.int .u64 t185)).setCell ⟨gb189, 2, none⟩ (.int .u64 t186)).setCell ⟨gb189, 3, none⟩ (.string t187)).setCell ⟨gb189, 4, none⟩ (.string t188)).heap[gb171]? = some (.cells #[.int .u64 t174, .int .u64 t175, .int .u64 t176, .string t177, .string t178] 28 (0, 0))) := ⟨by (with_reducible repeat (first | refine blk_drewN ?_ _ | refine blk_drew ?_ | refine blk_alloc ?_ _)); refine blk_far ?_ NB171_189.out _; (with_reducible repeat (first | refine blk_drewN ?_ _ | refine blk_drew ?_ | refine blk_alloc ?_ _)); refine blk_far ?_ NB171_189.out _; (with_reducible repeat (first | refine blk_drewN ?_ _ | refine blk_drew ?_ | refine blk_alloc ?_ _)); refine blk_far ?_ NB171_189.out _; (with_reducible repeat (first | refine blk_drewN ?_ _ | refine blk_drew ?_ | refine blk_alloc ?_ _)); refine blk_far ?_ NB171_189.out _; (with_reducible repeat (first | refine blk_drewN ?_ _ | refine blk_drew ?_ | refine blk_alloc ?_ _)); refine blk_far ?_ NB171_189.out _; (with_reducible repeat (first | refine blk_drewN ?_ _ | refine blk_drew ?_ | refine blk_alloc ?_ _)); exact BK171.out⟩
                have n2_ : Aside0 ((((((w62.setCell ⟨gb189, 0, none⟩ (.int .u64 t184)).setCell ⟨gb189, 1, none⟩ (.int .u64 t185)).setCell ⟨gb189, 2, none⟩ (.int .u64 t186)).setCell ⟨gb189, 3, none⟩ (.string t187)).setCell ⟨gb189, 4, none⟩ (.string t188)).heap[gb189]? = some (.cells #[.int .u64 t184, .int .u64 t185, .int .u64 t186, .string t187, .string t188] 28 (0, 0))) := ⟨by (with_reducible repeat (first | refine blk_drewN ?_ _ | refine blk_drew ?_ | refine blk_alloc ?_ _)); refine blk_put (cs := #[.int .u64 t184, .int .u64 t185, .int .u64 t186, .string t187, .string (⟨#[]⟩ : ByteArray)]) ?_ 4 _ rfl; (with_reducible repeat (first | refine blk_drewN ?_ _ | refine blk_drew ?_ | refine blk_alloc ?_ _)); refine blk_put (cs := #[.int .u64 t184, .int .u64 t185, .int .u64 t186, .string (⟨#[]⟩ : ByteArray), .string (⟨#[]⟩ : ByteArray)]) ?_ 3 _ rfl; (with_reducible repeat (first | refine blk_drewN ?_ _ | refine blk_drew ?_ | refine blk_alloc ?_ _)); refine blk_put (cs := #[.int .u64 t184, .int .u64 t185, .int .u64 0, .string (⟨#[]⟩ : ByteArray), .string (⟨#[]⟩ : ByteArray)]) ?_ 2 _ rfl; (with_reducible repeat (first | refine blk_drewN ?_ _ | refine blk_drew ?_ | refine blk_alloc ?_ _)); refine blk_put (cs := #[.int .u64 t184, .int .u64 0, .int .u64 0, .string (⟨#[]⟩ : ByteArray), .string (⟨#[]⟩ : ByteArray)]) ?_ 1 _ rfl; (with_reducible repeat (first | refine blk_drewN ?_ _ | refine blk_drew ?_ | refine blk_alloc ?_ _)); refine blk_put (cs := #[.int .u64 0, .int .u64 0, .int .u64 0, .string (⟨#[]⟩ : ByteArray), .string (⟨#[]⟩ : ByteArray)]) ?_ 0 _ rfl; (with_reducible repeat (first | refine blk_drewN ?_ _ | refine blk_drew ?_ | refine blk_alloc ?_ _)); exact BK189.out⟩
                have n3_ : Aside0 (Below w.heap.size w (((((w62.setCell ⟨gb189, 0, none⟩ (.int .u64 t184)).setCell ⟨gb189, 1, none⟩ (.int .u64 t185)).setCell ⟨gb189, 2, none⟩ (.int .u64 t186)).setCell ⟨gb189, 3, none⟩ (.string t187)).setCell ⟨gb189, 4, none⟩ (.string t188))) := ⟨by repeat (first | (with_reducible first | exact HB.out | apply below_alloc | apply pw_below_drewN | apply below_drew1 | refine below_set ?_ GE170.out | refine below_set ?_ GE171.out | refine below_set ?_ GE189.out) | exact HB.out)⟩
                (try clear BK170)
                (try clear BK171)
                (try clear BK189)
                (try clear HB)
                generalize (((((w62.setCell ⟨gb189, 0, none⟩ (.int .u64 t184)).setCell ⟨gb189, 1, none⟩ (.int .u64 t185)).setCell ⟨gb189, 2, none⟩ (.int .u64 t186)).setCell ⟨gb189, 3, none⟩ (.string t187)).setCell ⟨gb189, 4, none⟩ (.string t188)) = w66 at n0_ n1_ n2_ n3_ ⊢
                have BK170 := n0_
                have BK171 := n1_
                have BK189 := n2_
                have HB := n3_
                clear n0_ n1_ n2_ n3_
                have n0_ := Aside0.mk (blk_drew BK170.out)
                have n1_ := Aside0.mk (blk_drew BK171.out)
                have n2_ := Aside0.mk (blk_drew BK189.out)
                have n3_ := Aside0.mk (below_drew1 HB.out)
                clear BK170
                clear BK171
                clear BK189
                clear HB
                have BK170 := n0_
                have BK171 := n1_
                have BK189 := n2_
                have HB := n3_
                clear n0_ n1_ n2_ n3_
                refine start_ (n := 13) (S := fun w' => w'.cell? ⟨gb170, 0, none⟩ = some (.int .u64 a0_0) ∧ w'.cell? ⟨gb170, 1, none⟩ = some (.int .u64 a0_1) ∧ w'.cell? ⟨gb170, 2, none⟩ = some (.int .u64 a0_2) ∧ w'.cell? ⟨gb170, 3, none⟩ = some (.string a0_3) ∧ w'.cell? ⟨gb170, 4, none⟩ = some (.string a0_4) ∧ w'.cell? ⟨gb189, 0, none⟩ = some (.int .u64 t184) ∧ w'.cell? ⟨gb189, 1, none⟩ = some (.int .u64 t185) ∧ w'.cell? ⟨gb189, 2, none⟩ = some (.int .u64 t186) ∧ w'.cell? ⟨gb189, 3, none⟩ = some (.string t187) ∧ w'.cell? ⟨gb189, 4, none⟩ = some (.string t188)) (ds := []) #[false, false, false, false, false, false, false, false, false, false, false, false, false] (by kernel_rfl) rfl rfl ⟨(blk_cell BK170.out 0).trans rfl, (blk_cell BK170.out 1).trans rfl, (blk_cell BK170.out 2).trans rfl, (blk_cell BK170.out 3).trans rfl, (blk_cell BK170.out 4).trans rfl, (blk_cell BK189.out 0).trans rfl, (blk_cell BK189.out 1).trans rfl, (blk_cell BK189.out 2).trans rfl, (blk_cell BK189.out 3).trans rfl, (blk_cell BK189.out 4).trans rfl⟩ (fun hHeld => ?_); refine with_tabW laws_FnSemverIncPatchLeast.tab7 laws_FnSemverIncPatchLeast.bits7 (fun HT_ HW_ => ?_)
                generalize w66.drew = w67 at BK170 BK171 BK189 HB hHeld ⊢
                refine take_ (i := 0) (N := some 27) (v := ?_) (a' := ?_) #[true, false, false, false, false, false, false, false, false, false, false, false, false] rfl rfl (take_ofW HT_.out HW_.out (by kernel_rfl)) (fun _ _ _ h => h) (Or.inl ⟨by rfl, ?_⟩) hHeld ?_ ?_
                rotate_left
                · rintro w' ⟨s0, s1, s2, s3, s4, s5, s6, s7, s8, s9⟩
                  go_simp
                  with_reducible rfl
                rotate_left
                · simp only [Act.put, List.setIfInBounds_toArray, List.set_cons_zero, List.set_cons_succ, i64_w, i32_w]
                  rfl
                refine take_ (i := 1) (N := some 28) (v := ?_) (a' := ?_) #[true, true, false, false, false, false, false, false, false, false, false, false, false] rfl rfl (take_ofW HT_.out HW_.out (by kernel_rfl)) (fun _ _ _ h => h) (Or.inl ⟨by rfl, ?_⟩) hHeld ?_ ?_
                rotate_left
                · rintro w' ⟨s0, s1, s2, s3, s4, s5, s6, s7, s8, s9⟩
                  go_simp
                  with_reducible rfl
                rotate_left
                · simp only [Act.put, List.setIfInBounds_toArray, List.set_cons_zero, List.set_cons_succ, i64_w, i32_w]
                  rfl
                refine one_ (i := 2) (N := some 29) #[true, true, true, false, false, false, false, false, false, false, false, false, false] rfl rfl (one_of HT_.out (by kernel_rfl)) (by decide) (fun K hK => ?_)
                refine goes_ Tryd.func25 (by kernel_rfl) rfl #[.agg #[.int .u64 a0_0, .int .u64 a0_1, .int .u64 a0_2, .string a0_3, .string a0_4], .agg #[.int .u64 t184, .int .u64 t185, .int .u64 t186, .string t187, .string t188]] (by rfl) rfl rfl (by (try simp only [List.map_toArray, List.map_cons, List.map_nil]); first | done | rfl | (simp only [List.length_drop, List.length_take]; rfl)) ?_
                with_reducible refine (impl_VersionLess.calls a0_0 a0_1 a0_2 a0_3 a0_4 t184 t185 t186 t187 t188 false _ ?side1 A43.out).mono ?_
                (case side1 => exact HStd.out.below (by repeat (first | (with_reducible first | exact HB.out | apply below_alloc | apply pw_below_drewN | apply below_drew1 | refine below_set ?_ GE170.out | refine below_set ?_ GE171.out | refine below_set ?_ GE189.out) | exact HB.out)))
                rintro e w68 ⟨rfl, hb⟩
                refine ⟨_, rfl, ?_⟩
                have n0_ := Aside0.mk (blk_below (g := gb170) (o := .cells #[.int .u64 a0_0, .int .u64 a0_1, .int .u64 a0_2, .string a0_3, .string a0_4] 28 (0, 0)) (by (with_reducible repeat (first | refine blk_drewN ?_ _ | refine blk_drew ?_ | refine blk_alloc ?_ _)); exact BK170.out) hb)
                have n1_ := Aside0.mk (blk_below (g := gb171) (o := .cells #[.int .u64 t174, .int .u64 t175, .int .u64 t176, .string t177, .string t178] 28 (0, 0)) (by (with_reducible repeat (first | refine blk_drewN ?_ _ | refine blk_drew ?_ | refine blk_alloc ?_ _)); exact BK171.out) hb)
                have n2_ := Aside0.mk (blk_below (g := gb189) (o := .cells #[.int .u64 t184, .int .u64 t185, .int .u64 t186, .string t187, .string t188] 28 (0, 0)) (by (with_reducible repeat (first | refine blk_drewN ?_ _ | refine blk_drew ?_ | refine blk_alloc ?_ _)); exact BK189.out) hb)
                have n3_ := Aside0.mk (below_step (by repeat (first | (with_reducible first | exact HB.out | apply below_alloc | apply pw_below_drewN | apply below_drew1 | refine below_set ?_ GE170.out | refine below_set ?_ GE171.out | refine below_set ?_ GE189.out) | exact HB.out)) hb)
                clear BK170
                clear BK171
                clear BK189
                clear HB
                have BK170 := n0_
                have BK171 := n1_
                have BK189 := n2_
                have HB := n3_
                clear n0_ n1_ n2_ n3_
                (try clear hb)
                (try clear hb2)
                (try clear hk)
                (try clear hi)
                refine hK.out _ _ ⟨(blk_cell BK170.out 0).trans rfl, (blk_cell BK170.out 1).trans rfl, (blk_cell BK170.out 2).trans rfl, (blk_cell BK170.out 3).trans rfl, (blk_cell BK170.out 4).trans rfl, (blk_cell BK189.out 0).trans rfl, (blk_cell BK189.out 1).trans rfl, (blk_cell BK189.out 2).trans rfl, (blk_cell BK189.out 3).trans rfl, (blk_cell BK189.out 4).trans rfl⟩ (fun hHeld => ?_)
                clear hK K
                refine norm_ (a' := ?_) ?_ ?_
                rotate_left
                · show Act.put _ (some 29) _ = _
                  simp only [Act.put, List.setIfInBounds_toArray, List.set_cons_zero, List.set_cons_succ, i64_w, i32_w]
                  rfl
                refine pure_ (i := 3) (N := some 30) (v := ?_) (a' := ?_) #[true, true, true, true, false, false, false, false, false, false, false, false, false] rfl rfl (any_of HT_.out (by kernel_rfl)) (fun _ _ _ h => h) (Or.inl ⟨by rfl, ?_⟩) ?_ ?_
                rotate_left
                · intro w'
                  go_simp
                  with_reducible rfl
                rotate_left
                · simp only [Act.put, List.setIfInBounds_toArray, List.set_cons_zero, List.set_cons_succ, i64_w, i32_w]
                  rfl
                refine pure_ (i := 4) (N := some 31) (v := undef) (a' := ?_) #[true, true, true, true, true, false, false, false, false, false, false, false, false] rfl rfl (any_of HT_.out (by kernel_rfl)) (fun _ _ _ h => h) (Or.inr ⟨by rfl, rfl⟩) ?_ ?_
                rotate_left
                · simp only [Act.put, List.setIfInBounds_toArray, List.set_cons_zero, List.set_cons_succ, i64_w, i32_w]
                  rfl
                refine pure_ (i := 5) (N := some 32) (v := undef) (a' := ?_) #[true, true, true, true, true, true, false, false, false, false, false, false, false] rfl rfl (any_of HT_.out (by kernel_rfl)) (fun _ _ _ h => h) (Or.inr ⟨by rfl, rfl⟩) ?_ ?_
                rotate_left
                · simp only [Act.put, List.setIfInBounds_toArray, List.set_cons_zero, List.set_cons_succ, i64_w, i32_w]
                  rfl
                refine pure_ (i := 6) (N := some 33) (v := undef) (a' := ?_) #[true, true, true, true, true, true, true, false, false, false, false, false, false] rfl rfl (any_of HT_.out (by kernel_rfl)) (fun _ _ _ h => h) (Or.inr ⟨by rfl, rfl⟩) ?_ ?_
                rotate_left
                · simp only [Act.put, List.setIfInBounds_toArray, List.set_cons_zero, List.set_cons_succ, i64_w, i32_w]
                  rfl
                refine pure_ (i := 7) (N := some 34) (v := undef) (a' := ?_) #[true, true, true, true, true, true, true, true, false, false, false, false, false] rfl rfl (any_of HT_.out (by kernel_rfl)) (fun _ _ _ h => h) (Or.inr ⟨by rfl, rfl⟩) ?_ ?_
                rotate_left
                · simp only [Act.put, List.setIfInBounds_toArray, List.set_cons_zero, List.set_cons_succ, i64_w, i32_w]
                  rfl
                refine pure_ (i := 8) (N := some 35) (v := undef) (a' := ?_) #[true, true, true, true, true, true, true, true, true, false, false, false, false] rfl rfl (any_of HT_.out (by kernel_rfl)) (fun _ _ _ h => h) (Or.inr ⟨by rfl, rfl⟩) ?_ ?_
                rotate_left
                · simp only [Act.put, List.setIfInBounds_toArray, List.set_cons_zero, List.set_cons_succ, i64_w, i32_w]
                  rfl
                refine pure_ (i := 9) (N := some 36) (v := undef) (a' := ?_) #[true, true, true, true, true, true, true, true, true, true, false, false, false] rfl rfl (any_of HT_.out (by kernel_rfl)) (fun _ _ _ h => h) (Or.inr ⟨by rfl, rfl⟩) ?_ ?_
                rotate_left
                · simp only [Act.put, List.setIfInBounds_toArray, List.set_cons_zero, List.set_cons_succ, i64_w, i32_w]
                  rfl
                refine pure_ (i := 10) (N := some 37) (v := undef) (a' := ?_) #[true, true, true, true, true, true, true, true, true, true, true, false, false] rfl rfl (any_of HT_.out (by kernel_rfl)) (fun _ _ _ h => h) (Or.inr ⟨by rfl, rfl⟩) ?_ ?_
                rotate_left
                · simp only [Act.put, List.setIfInBounds_toArray, List.set_cons_zero, List.set_cons_succ, i64_w, i32_w]
                  rfl
                refine pure_ (i := 11) (N := some 38) (v := ?_) (a' := ?_) #[true, true, true, true, true, true, true, true, true, true, true, true, false] rfl rfl (any_of HT_.out (by kernel_rfl)) (fun _ _ _ h => h) (Or.inl ⟨by rfl, ?_⟩) ?_ ?_
                rotate_left
                · intro w'
                  go_simp
                  with_reducible rfl
                rotate_left
                · simp only [Act.put, List.setIfInBounds_toArray, List.set_cons_zero, List.set_cons_succ, i64_w, i32_w]
                  rfl
                refine pure_ (i := 12) (N := some 4) (v := ?_) (a' := ?_) #[true, true, true, true, true, true, true, true, true, true, true, true, true] rfl rfl (any_of HT_.out (by kernel_rfl)) (fun _ _ _ h => h) (Or.inl ⟨by rfl, ?_⟩) ?_ ?_
                rotate_left
                · intro w'
                  go_simp
                  with_reducible rfl
                rotate_left
                · simp only [Act.put, List.setIfInBounds_toArray, List.set_cons_zero, List.set_cons_succ, i64_w, i32_w]
                  rfl
                refine done_ (done_of HT_.out (by kernel_rfl)) ?_
                try go_wp2
                go_ret
                exact ⟨by first | rfl | (simp [errW_none, errW_some] <;> rfl) | (simp [*, errW_none, errW_some] <;> rfl) | (simp [bneNil]; done), by repeat (first | (with_reducible first | exact HB.out | apply below_alloc | apply pw_below_drewN | apply below_drew1 | refine below_set ?_ GE170.out | refine below_set ?_ GE171.out | refine below_set ?_ GE189.out) | exact HB.out)⟩

end Go.Proofs.YtekmeoemnekmcaaDoor.PX
namespace Go.Proofs.YtekmeoemnekmcaaDoor.KX

open Go.RowKit Go.Lib Go.Proofs Go.Proofs.YtekmeoemnekmcaaDoor.Base Go.Proofs.YtekmeoemnekmcaaDoor.L Go.Proofs.YtekmeoemnekmcaaDoor.Bt Go.Proofs.YtekmeoemnekmcaaDoor.Parse Go.Proofs.YtekmeoemnekmcaaDoor.PX

open Go.Proofs.YtekmeoemnekmcaaDoorW.PrintWords Go.Proofs.YtekmeoemnekmcaaDoorW.PrintLast Go.Proofs.YtekmeoemnekmcaaDoorW.PrintMore

theorem seg_cases (a b : Nat) : (a < b ∧ segC a b = -1) ∨ (a = b ∧ segC a b = 0) ∨ (b < a ∧ segC a b = 1) := by
  unfold segC
  rcases Nat.lt_trichotomy a b with h | h | h
  · exact .inl ⟨h, if_pos h⟩
  · exact .inr (.inl ⟨h, by rw [if_neg (by omega), if_neg (by omega)]⟩)
  · exact .inr (.inr ⟨h, by rw [if_neg (by omega), if_pos h]⟩)

theorem lt_of_rel (v w : Ver) (hw : bl w.pre = []) : (verC v w < 0) ↔ (v.ma < w.ma ∨ v.ma = w.ma ∧ (v.mi < w.mi ∨ v.mi = w.mi ∧ (v.pa < w.pa ∨ v.pa = w.pa ∧ bl v.pre ≠ []))) := by
  unfold verC preAny
  rw [hw]
  by_cases h : bl v.pre = [] <;> rcases seg_cases v.ma w.ma with ⟨h1, s1⟩ | ⟨h1, s1⟩ | ⟨h1, s1⟩ <;> rcases seg_cases v.mi w.mi with ⟨h2, s2⟩ | ⟨h2, s2⟩ | ⟨h2, s2⟩ <;> rcases seg_cases v.pa w.pa with ⟨h3, s3⟩ | ⟨h3, s3⟩ | ⟨h3, s3⟩ <;> simp [s1, s2, s3, h] <;> omega

theorem le_of_rel (v w : Ver) (hv : bl v.pre = []) (hw : bl w.pre = []) : (verC v w ≤ 0) ↔ (v.ma < w.ma ∨ v.ma = w.ma ∧ (v.mi < w.mi ∨ v.mi = w.mi ∧ v.pa ≤ w.pa)) := by
  unfold verC preAny
  rw [hw, hv]
  rcases seg_cases v.ma w.ma with ⟨h1, s1⟩ | ⟨h1, s1⟩ | ⟨h1, s1⟩ <;> rcases seg_cases v.mi w.mi with ⟨h2, s2⟩ | ⟨h2, s2⟩ | ⟨h2, s2⟩ <;> rcases seg_cases v.pa w.pa with ⟨h3, s3⟩ | ⟨h3, s3⟩ | ⟨h3, s3⟩ <;> simp [s1, s2, s3] <;> omega

theorem ip_less (a b c a' b' c' : Nat) (p m n : ByteArray) : impl_VersionLess.f (a : Int) b c p m (a' : Int) b' c' ⟨#[]⟩ n = if p.size ≤ 1000000000 then some (decide (a < a' ∨ a = a' ∧ (b < b' ∨ b = b' ∧ (c < c' ∨ c = c' ∧ bl p ≠ [])))) else none := by
  unfold impl_VersionLess.f
  have e : (⟨#[]⟩ : ByteArray).size = 0 := rfl
  by_cases hp : p.size ≤ 1000000000
  · have g1 : okV (a : Int) b c p := by unfold okV; omega
    have g2 : okV (a' : Int) b' c' (⟨#[]⟩ : ByteArray) := by unfold okV; omega
    rw [if_pos hp, if_pos ⟨g1, g2⟩]
    congr 1
    exact decide_eq_decide.2 (lt_of_rel (vOf a b c p m) (vOf a' b' c' ⟨#[]⟩ n) rfl)
  · rw [if_neg hp, if_neg (fun h => hp h.1.2.2.2)]

theorem ip_le (a b c a' b' c' : Nat) (m n : ByteArray) : impl_VersionLessEqual.f (a : Int) b c ⟨#[]⟩ m (a' : Int) b' c' ⟨#[]⟩ n = some (decide (a < a' ∨ a = a' ∧ (b < b' ∨ b = b' ∧ c ≤ c'))) := by
  unfold impl_VersionLessEqual.f
  have e : (⟨#[]⟩ : ByteArray).size = 0 := rfl
  have g1 : okV (a : Int) b c (⟨#[]⟩ : ByteArray) := by unfold okV; omega
  have g2 : okV (a' : Int) b' c' (⟨#[]⟩ : ByteArray) := by unfold okV; omega
  rw [if_pos ⟨g1, g2⟩]
  congr 1
  exact decide_eq_decide.2 (le_of_rel (vOf a b c ⟨#[]⟩ m) (vOf a' b' c' ⟨#[]⟩ n) rfl rfl)

theorem ip_j1 (a b c a' b' c' : Nat) (p m : ByteArray) (fl : Bool) (h : fl = false → p.size ≤ 1000000000 ∧ a + 1 ≤ 18446744073709551615 ∧ b + 1 ≤ 18446744073709551615 ∧ c + 1 ≤ 18446744073709551615) (k : Nat) :
    laws_FnSemverIncPatchLeast.j1 (k + 1) fl a b c p m a' b' c' ⟨#[]⟩ ⟨#[]⟩ = some true := by
  simp only [laws_FnSemverIncPatchLeast.j1]
  cases fl with
  | true => rfl
  | false =>
    obtain ⟨hp, ha, hb, hc⟩ := h rfl
    rw [if_neg (by decide)]
    have hh : ∀ x : Nat, impl_VersionIncPatch.f (a : Int) b c p m = some ((a : Int), (b : Int), (x : Int), (⟨#[]⟩ : ByteArray), (⟨#[]⟩ : ByteArray)) → (c < x ∨ c = x ∧ bl p ≠ []) → (∀ y, (c < y ∨ c = y ∧ bl p ≠ []) ↔ x ≤ y) →
        ((impl_VersionIncPatch.f (a : Int) b c p m).bind fun bt184 => ((impl_VersionLess.f (a : Int) b c p m bt184.1 bt184.2.1 bt184.2.2.1 bt184.2.2.2.1 bt184.2.2.2.2).bind fun t190 => (if t190 = true then ((impl_VersionLess.f (a : Int) b c p m a' b' c' ⟨#[]⟩ ⟨#[]⟩).bind fun t191 => ((impl_VersionLessEqual.f bt184.1 bt184.2.1 bt184.2.2.1 bt184.2.2.2.1 bt184.2.2.2.2 a' b' c' ⟨#[]⟩ ⟨#[]⟩).bind fun t192 => (some (t191 == t192)))) else (some false)))) = some true := by
      intro x e h1 h2
      rw [e, Option.bind_some]
      simp only []
      rw [ip_less, if_pos hp, Option.bind_some, ip_less, if_pos hp, ip_le, if_pos (decide_eq_true (.inr ⟨rfl, .inr ⟨rfl, h1⟩⟩)), Option.bind_some, Option.bind_some]
      congr 1
      rw [beq_iff_eq]
      apply decide_eq_decide.2
      rw [h2 c']
    by_cases q : bl p = []
    · refine hh (c + 1) ?_ (.inl (by omega)) ?_
      · unfold impl_VersionIncPatch.f
        rw [if_pos (by omega), toList_bl, if_pos q, if_pos (by omega)]; rfl
      · intro y
        constructor
        · rintro (h | h)
          · omega
          · exact absurd q h.2
        · exact fun h => .inl (by omega)
    · refine hh c ?_ (.inr ⟨rfl, q⟩) ?_
      · unfold impl_VersionIncPatch.f
        rw [if_pos (by omega), toList_bl, if_neg q]
      · intro y
        exact ⟨fun h => by omega, fun h => (Nat.lt_or_eq_of_le h).imp id (fun h => ⟨h, q⟩)⟩

theorem ip_j0 (a b c a' b' c' : Nat) (p m q n : ByteArray) (fl : Bool) (k : Nat) (hk : 140010 ≤ k) :
    laws_FnSemverIncPatchLeast.j0 (k + 2) fl a b c p m a' b' c' q n = some true := by
  simp only [laws_FnSemverIncPatchLeast.j0]
  cases fl with
  | true => rfl
  | false =>
    rw [if_neg (by decide)]
    simp only [spec_Bare.f, Option.bind_some]
    rw [svGood_k _ (by simp) _ (by simp; omega), Option.bind_some]
    split
    · rename_i hg
      simp only [List.all_cons, List.all_nil, Bool.and_true, Bool.and_eq_true, goodS, decide_eq_true_eq] at hg
      unfold spec_Plain.f
      rw [good_f _ _ _ p m (by omega) (by omega) _ (by omega), Option.bind_some, if_pos hg.2]
      by_cases h1 : (a : Int) < 18446744073709551615
      · by_cases h2 : (b : Int) < 18446744073709551615
        · by_cases h3 : (c : Int) < 18446744073709551615
          · rw [if_pos h1, if_pos h2, if_pos h3]
            split
            · rw [Option.bind_some]
              exact ip_j1 a b c a' b' c' p m _ (fun _ => by omega) k
            · rw [Option.bind_some]
              exact ip_j1 a b c a' b' c' p m _ (fun _ => by omega) k
          · rw [if_pos h1, if_pos h2, if_neg h3, Option.bind_some]
            exact ip_j1 a b c a' b' c' p m true (by simp) k
        · rw [if_pos h1, if_neg h2, Option.bind_some]
          exact ip_j1 a b c a' b' c' p m true (by simp) k
      · rw [if_neg h1, Option.bind_some]
        exact ip_j1 a b c a' b' c' p m true (by simp) k
    · exact ip_j1 a b c a' b' c' p m true (by simp) k

theorem pure_IncPatchLeast (a b c : Nat) (p m : ByteArray) (a' b' c' : Nat) (q n : ByteArray) (_ : a ≤ 18446744073709551615) (_ : b ≤ 18446744073709551615) (_ : c ≤ 18446744073709551615) (_ : a' ≤ 18446744073709551615) (_ : b' ≤ 18446744073709551615) (_ : c' ≤ 18446744073709551615) :
    ∃ k, laws_FnSemverIncPatchLeast.f k a b c p m a' b' c' q n = some true := by
  refine ⟨140012, ?_⟩
  unfold laws_FnSemverIncPatchLeast.f
  rw [fits14_f, Option.bind_some]
  split
  · rw [fits14_f, Option.bind_some]
    exact ip_j0 a b c a' b' c' p m q n _ 140010 (by omega)
  · exact ip_j0 a b c a' b' c' p m q n _ 140010 (by omega)

end Go.Proofs.YtekmeoemnekmcaaDoor.KX
