/- Contracts, made out of the kit's print of the program, widened by contracts of my own. -/
import Derived.Test.YtekmeoemnekmcaaDoorPXx0
import Derived.Test.YtekmeoemnekmcaaDoorPXx2
import Derived.Test.YtekmeoemnekmcaaDoorEGreater
import Derived.Test.YtekmeoemnekmcaaDoorELess
namespace Go.Proofs.YtekmeoemnekmcaaDoor.PX
open Go.RowKit Go.Proofs.YtekmeoemnekmcaaDoorW.PrintWords Go.Proofs.YtekmeoemnekmcaaDoorW.PrintLast Go.Proofs.YtekmeoemnekmcaaDoorW.PrintMore
attribute [local go_sem] max2_int min2_int max_two min_two max_three min_three max_four min_four   -- for this text's walks alone
set_option linter.unusedVariables false
set_option linter.unusedSimpArgs false

/-! ### laws_FnSemverReleaseAbove: function 7 -/
mutual
def laws_FnSemverReleaseAbove.j0 : Nat → ByteArray → ByteArray → Bool → Int → Int → Int → ByteArray → ByteArray → Option (Bool)
  | 0, _, _, _, _, _, _, _, _ => none
  | k + 1, x1, x2, x20, x145000, x145001, x145002, x145003, x145004 => if x20 = true then (some true) else ((spec_Bare.f x145000 x145001 x145002 x145003 x145004).bind fun bt146 => (if x1.toList = ([] : List UInt8) then (laws_FnSemverReleaseAbove.j1 k x1 true bt146.1 bt146.2.1 bt146.2.2.1 bt146.2.2.2.1 bt146.2.2.2.2 bt146.1 bt146.2.1 (IntKind.u64.wrap (bt146.2.2.1 + 1)) x2 (⟨#[]⟩ : ByteArray)) else (if x2.toList = ([] : List UInt8) then (laws_FnSemverReleaseAbove.j1 k x1 true bt146.1 bt146.2.1 bt146.2.2.1 bt146.2.2.2.1 bt146.2.2.2.2 bt146.1 bt146.2.1 (IntKind.u64.wrap (bt146.2.2.1 + 1)) x2 (⟨#[]⟩ : ByteArray)) else ((laws_svPre.f bt146.1 bt146.2.1 bt146.2.2.1 bt146.2.2.2.1 bt146.2.2.2.2 x1).bind fun bt152 => ((laws_svGood.f k (([(⟨bt152.1, bt152.2.1, bt152.2.2.1, bt152.2.2.2.1, bt152.2.2.2.2⟩ : S28), (⟨bt146.1, bt146.2.1, IntKind.u64.wrap (bt146.2.2.1 + 1), x2, (⟨#[]⟩ : ByteArray)⟩ : S28)] : List (S28)))).bind fun t160 => (if t160 = true then (laws_FnSemverReleaseAbove.j1 k x1 ((IntKind.u64.wrap (bt146.2.2.1 + 1)) == 0) bt146.1 bt146.2.1 bt146.2.2.1 bt146.2.2.2.1 bt146.2.2.2.2 bt146.1 bt146.2.1 (IntKind.u64.wrap (bt146.2.2.1 + 1)) x2 (⟨#[]⟩ : ByteArray)) else (laws_FnSemverReleaseAbove.j1 k x1 true bt146.1 bt146.2.1 bt146.2.2.1 bt146.2.2.2.1 bt146.2.2.2.2 bt146.1 bt146.2.1 (IntKind.u64.wrap (bt146.2.2.1 + 1)) x2 (⟨#[]⟩ : ByteArray))))))))
def laws_FnSemverReleaseAbove.j1 : Nat → ByteArray → Bool → Int → Int → Int → ByteArray → ByteArray → Int → Int → Int → ByteArray → ByteArray → Option (Bool)
  | 0, _, _, _, _, _, _, _, _, _, _, _, _ => none
  | k + 1, x1, x51, x145000, x145001, x145002, x145003, x145004, x152000, x152001, x152002, x152003, x152004 => if x51 = true then (some true) else ((laws_svPre.f x145000 x145001 x145002 x145003 x145004 x1).bind fun bt161 => ((impl_VersionGreater.f x145000 x145001 x145002 x145003 x145004 bt161.1 bt161.2.1 bt161.2.2.1 bt161.2.2.2.1 bt161.2.2.2.2).bind fun t166 => (if t166 = true then ((impl_VersionLess.f x145000 x145001 x145002 x145003 x145004 x152000 x152001 x152002 x152003 x152004).bind fun t167 => (some t167)) else (some false))))
end
def laws_FnSemverReleaseAbove.f (k : Nat) (a0_0 : Int) (a0_1 : Int) (a0_2 : Int) (a0_3 : ByteArray) (a0_4 : ByteArray) (a1 : ByteArray) (a2 : ByteArray) : Option (Bool) := (laws_zzFits14.f a0_0 a0_1 a0_2 a0_3 a0_4).bind fun t145 => (if t145 = true then (if (a1.size : Int) > 2147483647 then (laws_FnSemverReleaseAbove.j0 k a1 a2 true a0_0 a0_1 a0_2 a0_3 a0_4) else (laws_FnSemverReleaseAbove.j0 k a1 a2 (decide ((a2.size : Int) > 2147483647)) a0_0 a0_1 a0_2 a0_3 a0_4)) else (laws_FnSemverReleaseAbove.j0 k a1 a2 true a0_0 a0_1 a0_2 a0_3 a0_4))
theorem laws_FnSemverReleaseAbove.mono_l : ∀ k, (∀ y0 y1 y2 y3 y4 y5 y6 y7, LeO (laws_FnSemverReleaseAbove.j0 k y0 y1 y2 y3 y4 y5 y6 y7) (laws_FnSemverReleaseAbove.j0 (k + 1) y0 y1 y2 y3 y4 y5 y6 y7)) ∧ (∀ y0 y1 y2 y3 y4 y5 y6 y7 y8 y9 y10 y11, LeO (laws_FnSemverReleaseAbove.j1 k y0 y1 y2 y3 y4 y5 y6 y7 y8 y9 y10 y11) (laws_FnSemverReleaseAbove.j1 (k + 1) y0 y1 y2 y3 y4 y5 y6 y7 y8 y9 y10 y11))
  | 0 => ⟨fun _ _ _ _ _ _ _ _ r h => by simp [laws_FnSemverReleaseAbove.j0] at h, fun _ _ _ _ _ _ _ _ _ _ _ _ r h => by simp [laws_FnSemverReleaseAbove.j1] at h⟩
  | k + 1 => by
    obtain ⟨ih0, ih1⟩ := laws_FnSemverReleaseAbove.mono_l k
    refine ⟨?_, ?_⟩
    · intro y0 y1 y2 y3 y4 y5 y6 y7
      unfold laws_FnSemverReleaseAbove.j0
      repeat' first
      | (with_reducible exact ih0 _ _ _ _ _ _ _ _)
      | (with_reducible exact ih1 _ _ _ _ _ _ _ _ _ _ _ _)
      | (with_reducible exact laws_svGood.mono _ _)
      | (with_reducible exact LeO.refl _)
      | (with_reducible exact LeO.none _)
      | (with_reducible refine LeO.ite ?_ ?_)
      | (with_reducible refine LeO.bind ?_ (fun _ => ?_))
      | exact ih0 _ _ _ _ _ _ _ _
      | exact ih1 _ _ _ _ _ _ _ _ _ _ _ _
      | exact laws_svGood.mono _ _
      | exact LeO.none _
      | refine LeO.ite ?_ ?_
      | refine LeO.bind ?_ (fun _ => ?_)
    · intro y0 y1 y2 y3 y4 y5 y6 y7 y8 y9 y10 y11
      unfold laws_FnSemverReleaseAbove.j1
      repeat' first
      | (with_reducible exact ih0 _ _ _ _ _ _ _ _)
      | (with_reducible exact ih1 _ _ _ _ _ _ _ _ _ _ _ _)
      | (with_reducible exact laws_svGood.mono _ _)
      | (with_reducible exact LeO.refl _)
      | (with_reducible exact LeO.none _)
      | (with_reducible refine LeO.ite ?_ ?_)
      | (with_reducible refine LeO.bind ?_ (fun _ => ?_))
      | exact ih0 _ _ _ _ _ _ _ _
      | exact ih1 _ _ _ _ _ _ _ _ _ _ _ _
      | exact laws_svGood.mono _ _
      | exact LeO.none _
      | refine LeO.ite ?_ ?_
      | refine LeO.bind ?_ (fun _ => ?_)
theorem laws_FnSemverReleaseAbove.mono : ∀ a0 a1 a2 a3 a4 a5 a6 k, LeO (laws_FnSemverReleaseAbove.f k a0 a1 a2 a3 a4 a5 a6) (laws_FnSemverReleaseAbove.f (k + 1) a0 a1 a2 a3 a4 a5 a6) := by
  intro a0 a1 a2 a3 a4 a5 a6 k
  obtain ⟨ih0, ih1⟩ := laws_FnSemverReleaseAbove.mono_l k
  unfold laws_FnSemverReleaseAbove.f
  repeat' first
      | (with_reducible exact ih0 _ _ _ _ _ _ _ _)
      | (with_reducible exact ih1 _ _ _ _ _ _ _ _ _ _ _ _)
      | (with_reducible exact laws_svGood.mono _ _)
      | (with_reducible exact LeO.refl _)
      | (with_reducible exact LeO.none _)
      | (with_reducible refine LeO.ite ?_ ?_)
      | (with_reducible refine LeO.bind ?_ (fun _ => ?_))
      | exact ih0 _ _ _ _ _ _ _ _
      | exact ih1 _ _ _ _ _ _ _ _ _ _ _ _
      | exact laws_svGood.mono _ _
      | exact LeO.none _
      | refine LeO.ite ?_ ?_
      | refine LeO.bind ?_ (fun _ => ?_)
def laws_FnSemverReleaseAbove.T5 : Bool × List (List Nat × List Nat) := (true, [([], []), ([0], [0]), ([1], [1]), ([2], [2]), ([3, 2], [2, 3]), ([2, 4], [2, 4]), ([5, 2], [5]), ([6], [6]), ([6], [6]), ([7, 8, 6, 6], [6, 7, 8]), ([6], [6]), ([9, 10, 6], [6, 9, 10]), ([11, 9, 6], [6, 11]), ([12, 6], [6, 12]), ([6, 13], [6, 13]), ([14, 12], [14]), ([15], [15]), ([16, 15], [15, 16]), ([17, 15], [15, 17]), ([15, 18], [15, 18])])
def laws_FnSemverReleaseAbove.B5 : List Nat := [0, 1, 3, 7, 15, 31, 63, 127, 127, 511, 127, 2047, 4095, 8191, 16383, 32767, 65535, 131071, 262143, 524287]
theorem laws_FnSemverReleaseAbove.tab5 : rtab .any (opsOf Tryd.f7 5) = laws_FnSemverReleaseAbove.T5 := by kernel_rfl
theorem laws_FnSemverReleaseAbove.bits5 : waitsOk laws_FnSemverReleaseAbove.T5.2 laws_FnSemverReleaseAbove.B5 = true := by kernel_rfl
def laws_FnSemverReleaseAbove.T7 : Bool × List (List Nat × List Nat) := (true, [([], []), ([], []), ([], []), ([1, 2], [1, 2]), ([0, 3, 3], [0, 3]), ([4, 4], [4]), ([5], [5]), ([5], [5]), ([6, 7, 5, 5], [5, 6, 7]), ([5, 8], [5, 8]), ([9, 8, 0, 1, 2, 3, 4, 5, 6, 7, 8, 9], [9])])
def laws_FnSemverReleaseAbove.B7 : List Nat := [0, 0, 0, 6, 15, 31, 63, 63, 255, 511, 1023]
theorem laws_FnSemverReleaseAbove.tab7 : rtab .any (opsOf Tryd.f7 7) = laws_FnSemverReleaseAbove.T7 := by kernel_rfl
theorem laws_FnSemverReleaseAbove.bits7 : waitsOk laws_FnSemverReleaseAbove.T7.2 laws_FnSemverReleaseAbove.B7 = true := by kernel_rfl
set_option maxHeartbeats 8000000 in
set_option maxRecDepth 100000 in
theorem laws_FnSemverReleaseAbove.calls (k : Nat) (a0_0 : Int) (a0_1 : Int) (a0_2 : Int) (a0_3 : ByteArray) (a0_4 : ByteArray) (a1 : ByteArray) (a2 : ByteArray) (r : Bool) (w : World) (hStd : Std w) (h : laws_FnSemverReleaseAbove.f k a0_0 a0_1 a0_2 a0_3 a0_4 a1 a2 = some r) :
    Calls Tryd.prog 7 #[.agg #[.int .u64 a0_0, .int .u64 a0_1, .int .u64 a0_2, .string a0_3, .string a0_4], .string a1, .string a2] w fun e w' => e = .returned (.bool r) ∧ Below w.heap.size w w' := by
  have hu28 := Tryd.underlying28
  have HStd := Aside0.mk hStd
  clear hStd
  have HB := Aside0.mk (Below.refl w.heap.size w)
  have H : ((laws_zzFits14.f a0_0 a0_1 a0_2 a0_3 a0_4).bind fun t145 => (if t145 = true then (if (a1.size : Int) > 2147483647 then (laws_FnSemverReleaseAbove.j0 k a1 a2 true a0_0 a0_1 a0_2 a0_3 a0_4) else (laws_FnSemverReleaseAbove.j0 k a1 a2 (decide ((a2.size : Int) > 2147483647)) a0_0 a0_1 a0_2 a0_3 a0_4)) else (laws_FnSemverReleaseAbove.j0 k a1 a2 true a0_0 a0_1 a0_2 a0_3 a0_4))) = some r := h
  clear h
  have HC4 := Aside0.mk H
  clear H
  go_enter Tryd.func7, Tryd.ntmps7
  go_upto_region 1 with (first | ((with_reducible refine gate_dst (N := 3) rfl ?_); (try (refine gate_guard (by rfl) ?_; dsimp only)); refine box_event ?hg (N := 3) ?hd (cs := #[.int .u64 a0_0, .int .u64 a0_1, .int .u64 a0_2, .string a0_3, .string a0_4]) (t := 28) ?hr ?_; (case hd => rfl); (case hg => rfl); (case hr => first | (go_simp; done) | (go_simp; rfl) | (go_simp; simp [u8w]; done)); intro gb144 hg w5 hbox hb; have n0_ := Aside0.mk (below_step (by repeat (first | (with_reducible first | exact HB.out | apply below_alloc | apply pw_below_drewN | apply below_drew1) | exact HB.out)) hb); have n1_ := Aside0.mk (hbox); have n2_ := Aside0.mk ((by rw [hg]; exact (below_size (by repeat (first | (with_reducible first | exact HB.out | apply below_alloc | apply pw_below_drewN | apply below_drew1) | exact HB.out))) : w.heap.size ≤ gb144)); have n3_ := Aside0.mk ((by rw [hg]; exact (below_size (by repeat (first | (with_reducible first | exact HB.out | apply below_alloc | apply pw_below_drewN | apply below_drew1) | exact HB.out))) : w.heap.size ≤ gb144)); clear HB; have HB := n0_; have BK144 := n1_; have GW144 := n2_; have GE144 := n3_; clear n0_ n1_ n2_ n3_; clear hb hbox hg))
  (try simp only [Act.put, List.setIfInBounds_toArray, List.set_cons_zero, List.set_cons_succ])
  go_cut [20] (fun v20 wc => ∃ (kq : Nat) (x20_3 : Bool), v20 = .bool x20_3 ∧ Aside0 (laws_FnSemverReleaseAbove.j0 kq a1 a2 x20_3 a0_0 a0_1 a0_2 a0_3 a0_4 = some r) ∧ Aside0 (kq ≤ k) ∧ Aside0 (wc.heap[gb144]? = some (.cells #[.int .u64 a0_0, .int .u64 a0_1, .int .u64 a0_2, .string a0_3, .string a0_4] 28 (0, 0))) ∧ Aside0 (Below w.heap.size w wc))
  case first =>
    have H := HC4.out
    clear HC4
    replace H := Option.bind_eq_some_iff.mp H
    obtain ⟨t145, A60, H⟩ := H
    replace H : (if t145 = true then (if (a1.size : Int) > 2147483647 then (laws_FnSemverReleaseAbove.j0 k a1 a2 true a0_0 a0_1 a0_2 a0_3 a0_4) else (laws_FnSemverReleaseAbove.j0 k a1 a2 (decide ((a2.size : Int) > 2147483647)) a0_0 a0_1 a0_2 a0_3 a0_4)) else (laws_FnSemverReleaseAbove.j0 k a1 a2 true a0_0 a0_1 a0_2 a0_3 a0_4)) = some r := H
    have A6 := Aside0.mk A60
    clear A60
    by_cases c7 : t145 = true
    · subst c7
      have H1 : (if (a1.size : Int) > 2147483647 then (laws_FnSemverReleaseAbove.j0 k a1 a2 true a0_0 a0_1 a0_2 a0_3 a0_4) else (laws_FnSemverReleaseAbove.j0 k a1 a2 (decide ((a2.size : Int) > 2147483647)) a0_0 a0_1 a0_2 a0_3 a0_4)) = some r := by rw [if_pos rfl] at H; exact H
      clear H
      have H := H1
      clear H1
      by_cases c8 : (a1.size : Int) > 2147483647
      · rw [if_pos c8] at H
        have c8b0 : decide (2147483647 < (a1.size : Int)) = true := decide_eq_true c8
        have c8b1 : decide (2147483647 < a1.size) = true := decide_eq_true (by omega)
        clear c8
        (first | rw [c8b0] | (simp only [i64_w, i32_w]; rw [c8b0]) | skip)
        have H' := Aside0.mk H
        clear H
        have hcz9_0 : w5.cell? ⟨gb144, 0, none⟩ = some (.int .u64 a0_0) := (blk_cell BK144.out 0).trans rfl
        have hcz9_1 : w5.cell? ⟨gb144, 1, none⟩ = some (.int .u64 a0_1) := (blk_cell BK144.out 1).trans rfl
        have hcz9_2 : w5.cell? ⟨gb144, 2, none⟩ = some (.int .u64 a0_2) := (blk_cell BK144.out 2).trans rfl
        have hcz9_3 : w5.cell? ⟨gb144, 3, none⟩ = some (.string a0_3) := (blk_cell BK144.out 3).trans rfl
        have hcz9_4 : w5.cell? ⟨gb144, 4, none⟩ = some (.string a0_4) := (blk_cell BK144.out 4).trans rfl
        have hfz9_0 := blk_frozen BK144.out 0
        have hfz9_1 := blk_frozen BK144.out 1
        have hfz9_2 := blk_frozen BK144.out 2
        have hfz9_3 := blk_frozen BK144.out 3
        have hfz9_4 := blk_frozen BK144.out 4
        go_wp2_with (first | ((with_reducible refine gate_callee (f := 16) rfl ?_); refine goesL_ (some 9) rfl rfl Tryd.func16 (by kernel_rfl) rfl #[.agg #[.int .u64 a0_0, .int .u64 a0_1, .int .u64 a0_2, .string a0_3, .string a0_4]] rfl (by (try simp only [List.map_toArray, List.map_cons, List.map_nil]); first | done | rfl | (simp only [List.length_drop, List.length_take]; rfl)) ?_; (with_reducible refine (laws_zzFits14.calls a0_0 a0_1 a0_2 a0_3 a0_4 true _ A6.out).mono ?_); rintro e w10 ⟨rfl, hb⟩; refine ⟨_, rfl, ?_⟩; have n0_ := Aside0.mk (blk_below (g := gb144) (o := .cells #[.int .u64 a0_0, .int .u64 a0_1, .int .u64 a0_2, .string a0_3, .string a0_4] 28 (0, 0)) (by (with_reducible repeat (first | refine blk_drewN ?_ _ | refine blk_drew ?_ | refine blk_alloc ?_ _)); exact BK144.out) hb); have n1_ := Aside0.mk (below_step (by repeat (first | (with_reducible first | exact HB.out | apply below_alloc | apply pw_below_drewN | apply below_drew1 | refine below_set ?_ GE144.out) | exact HB.out)) hb); clear BK144; clear HB; have BK144 := n0_; have HB := n1_; clear n0_ n1_; (try clear hb); (try clear hb2); (try clear hk); (try clear hi)))
        go_meet
        case rel => exact ⟨_, (true), (by first | rfl | (simp; done) | (simp [*]; done)), H', ⟨by first | omega | exact Nat.le_refl _⟩, ⟨by (with_reducible repeat (first | refine blk_drewN ?_ _ | refine blk_drew ?_ | refine blk_alloc ?_ _)); exact BK144.out⟩, ⟨by repeat (first | (with_reducible first | exact HB.out | apply below_alloc | apply pw_below_drewN | apply below_drew1 | refine below_set ?_ GE144.out) | exact HB.out)⟩⟩
      · rw [if_neg c8] at H
        have c8b0 : decide (2147483647 < (a1.size : Int)) = false := decide_eq_false c8
        have c8b1 : decide (2147483647 < a1.size) = false := decide_eq_false (by omega)
        clear c8
        (first | rw [c8b0] | (simp only [i64_w, i32_w]; rw [c8b0]) | skip)
        have H' := Aside0.mk H
        clear H
        have hcz11_0 : w5.cell? ⟨gb144, 0, none⟩ = some (.int .u64 a0_0) := (blk_cell BK144.out 0).trans rfl
        have hcz11_1 : w5.cell? ⟨gb144, 1, none⟩ = some (.int .u64 a0_1) := (blk_cell BK144.out 1).trans rfl
        have hcz11_2 : w5.cell? ⟨gb144, 2, none⟩ = some (.int .u64 a0_2) := (blk_cell BK144.out 2).trans rfl
        have hcz11_3 : w5.cell? ⟨gb144, 3, none⟩ = some (.string a0_3) := (blk_cell BK144.out 3).trans rfl
        have hcz11_4 : w5.cell? ⟨gb144, 4, none⟩ = some (.string a0_4) := (blk_cell BK144.out 4).trans rfl
        have hfz11_0 := blk_frozen BK144.out 0
        have hfz11_1 := blk_frozen BK144.out 1
        have hfz11_2 := blk_frozen BK144.out 2
        have hfz11_3 := blk_frozen BK144.out 3
        have hfz11_4 := blk_frozen BK144.out 4
        go_wp2_with (first | ((with_reducible refine gate_callee (f := 16) rfl ?_); refine goesL_ (some 9) rfl rfl Tryd.func16 (by kernel_rfl) rfl #[.agg #[.int .u64 a0_0, .int .u64 a0_1, .int .u64 a0_2, .string a0_3, .string a0_4]] rfl (by (try simp only [List.map_toArray, List.map_cons, List.map_nil]); first | done | rfl | (simp only [List.length_drop, List.length_take]; rfl)) ?_; (with_reducible refine (laws_zzFits14.calls a0_0 a0_1 a0_2 a0_3 a0_4 true _ A6.out).mono ?_); rintro e w12 ⟨rfl, hb⟩; refine ⟨_, rfl, ?_⟩; have n0_ := Aside0.mk (blk_below (g := gb144) (o := .cells #[.int .u64 a0_0, .int .u64 a0_1, .int .u64 a0_2, .string a0_3, .string a0_4] 28 (0, 0)) (by (with_reducible repeat (first | refine blk_drewN ?_ _ | refine blk_drew ?_ | refine blk_alloc ?_ _)); exact BK144.out) hb); have n1_ := Aside0.mk (below_step (by repeat (first | (with_reducible first | exact HB.out | apply below_alloc | apply pw_below_drewN | apply below_drew1 | refine below_set ?_ GE144.out) | exact HB.out)) hb); clear BK144; clear HB; have BK144 := n0_; have HB := n1_; clear n0_ n1_; (try clear hb); (try clear hb2); (try clear hk); (try clear hi)))
        go_meet
        case rel => exact ⟨_, (decide ((a2.size : Int) > 2147483647)), (by first | rfl | (simp; done) | (simp [*]; done)), H', ⟨by first | omega | exact Nat.le_refl _⟩, ⟨by (with_reducible repeat (first | refine blk_drewN ?_ _ | refine blk_drew ?_ | refine blk_alloc ?_ _)); exact BK144.out⟩, ⟨by repeat (first | (with_reducible first | exact HB.out | apply below_alloc | apply pw_below_drewN | apply below_drew1 | refine below_set ?_ GE144.out) | exact HB.out)⟩⟩
    · replace c7 := Bool.eq_false_iff.mpr c7
      subst c7
      have H1 : (laws_FnSemverReleaseAbove.j0 k a1 a2 true a0_0 a0_1 a0_2 a0_3 a0_4) = some r := by rw [if_neg (show ¬ (false = true) by decide)] at H; exact H
      clear H
      have H := H1
      clear H1
      have H' := Aside0.mk H
      clear H
      have hcz13_0 : w5.cell? ⟨gb144, 0, none⟩ = some (.int .u64 a0_0) := (blk_cell BK144.out 0).trans rfl
      have hcz13_1 : w5.cell? ⟨gb144, 1, none⟩ = some (.int .u64 a0_1) := (blk_cell BK144.out 1).trans rfl
      have hcz13_2 : w5.cell? ⟨gb144, 2, none⟩ = some (.int .u64 a0_2) := (blk_cell BK144.out 2).trans rfl
      have hcz13_3 : w5.cell? ⟨gb144, 3, none⟩ = some (.string a0_3) := (blk_cell BK144.out 3).trans rfl
      have hcz13_4 : w5.cell? ⟨gb144, 4, none⟩ = some (.string a0_4) := (blk_cell BK144.out 4).trans rfl
      have hfz13_0 := blk_frozen BK144.out 0
      have hfz13_1 := blk_frozen BK144.out 1
      have hfz13_2 := blk_frozen BK144.out 2
      have hfz13_3 := blk_frozen BK144.out 3
      have hfz13_4 := blk_frozen BK144.out 4
      go_wp2_with (first | ((with_reducible refine gate_callee (f := 16) rfl ?_); refine goesL_ (some 9) rfl rfl Tryd.func16 (by kernel_rfl) rfl #[.agg #[.int .u64 a0_0, .int .u64 a0_1, .int .u64 a0_2, .string a0_3, .string a0_4]] rfl (by (try simp only [List.map_toArray, List.map_cons, List.map_nil]); first | done | rfl | (simp only [List.length_drop, List.length_take]; rfl)) ?_; (with_reducible refine (laws_zzFits14.calls a0_0 a0_1 a0_2 a0_3 a0_4 false _ A6.out).mono ?_); rintro e w14 ⟨rfl, hb⟩; refine ⟨_, rfl, ?_⟩; have n0_ := Aside0.mk (blk_below (g := gb144) (o := .cells #[.int .u64 a0_0, .int .u64 a0_1, .int .u64 a0_2, .string a0_3, .string a0_4] 28 (0, 0)) (by (with_reducible repeat (first | refine blk_drewN ?_ _ | refine blk_drew ?_ | refine blk_alloc ?_ _)); exact BK144.out) hb); have n1_ := Aside0.mk (below_step (by repeat (first | (with_reducible first | exact HB.out | apply below_alloc | apply pw_below_drewN | apply below_drew1 | refine below_set ?_ GE144.out) | exact HB.out)) hb); clear BK144; clear HB; have BK144 := n0_; have HB := n1_; clear n0_ n1_; (try clear hb); (try clear hb2); (try clear hk); (try clear hi)))
      go_meet
      case rel => exact ⟨_, (true), (by first | rfl | (simp; done) | (simp [*]; done)), H', ⟨by first | omega | exact Nat.le_refl _⟩, ⟨by (with_reducible repeat (first | refine blk_drewN ?_ _ | refine blk_drew ?_ | refine blk_alloc ?_ _)); exact BK144.out⟩, ⟨by repeat (first | (with_reducible first | exact HB.out | apply below_alloc | apply pw_below_drewN | apply below_drew1 | refine below_set ?_ GE144.out) | exact HB.out)⟩⟩
  case rest =>
    clear HC4
    try clear c1
    try clear p2
    try clear c7
    try clear c8
    try clear c8b0
    try clear c8b1
    try clear hcz11_0
    try clear hcz11_1
    try clear hcz11_2
    try clear hcz11_3
    try clear hcz11_4
    try clear hcz13_0
    try clear hcz13_1
    try clear hcz13_2
    try clear hcz13_3
    try clear hcz13_4
    try clear hcz9_0
    try clear hcz9_1
    try clear hcz9_2
    try clear hcz9_3
    try clear hcz9_4
    try clear hfz11_0
    try clear hfz11_1
    try clear hfz11_2
    try clear hfz11_3
    try clear hfz11_4
    try clear hfz13_0
    try clear hfz13_1
    try clear hfz13_2
    try clear hfz13_3
    try clear hfz13_4
    try clear hfz9_0
    try clear hfz9_1
    try clear hfz9_2
    try clear hfz9_3
    try clear hfz9_4
    obtain ⟨kq, x20_3, rfl, HA, HJ3, BK144, HB⟩ := hcut
    cases kq with
    | zero => exact absurd HA.out (by simp [laws_FnSemverReleaseAbove.j0])
    | succ kj3 =>
      have H := HA.out
      clear HA
      simp only [laws_FnSemverReleaseAbove.j0] at H
      by_cases c15 : x20_3 = true
      · subst c15
        have H1 : (some true) = some r := by rw [if_pos rfl] at H; exact H
        clear H
        have H := H1
        clear H1
        obtain rfl := Option.some.inj H
        go_wp2
        go_ret
        exact ⟨by first | rfl | (simp [errW_none, errW_some] <;> rfl) | (simp [*, errW_none, errW_some] <;> rfl) | (simp [bneNil]; done), by repeat (first | (with_reducible first | exact HB.out | apply below_alloc | apply pw_below_drewN | apply below_drew1 | refine below_set ?_ GE144.out) | exact HB.out)⟩
      · replace c15 := Bool.eq_false_iff.mpr c15
        subst c15
        have H1 : ((spec_Bare.f a0_0 a0_1 a0_2 a0_3 a0_4).bind fun bt146 => (if a1.toList = ([] : List UInt8) then (laws_FnSemverReleaseAbove.j1 kj3 a1 true bt146.1 bt146.2.1 bt146.2.2.1 bt146.2.2.2.1 bt146.2.2.2.2 bt146.1 bt146.2.1 (IntKind.u64.wrap (bt146.2.2.1 + 1)) a2 (⟨#[]⟩ : ByteArray)) else (if a2.toList = ([] : List UInt8) then (laws_FnSemverReleaseAbove.j1 kj3 a1 true bt146.1 bt146.2.1 bt146.2.2.1 bt146.2.2.2.1 bt146.2.2.2.2 bt146.1 bt146.2.1 (IntKind.u64.wrap (bt146.2.2.1 + 1)) a2 (⟨#[]⟩ : ByteArray)) else ((laws_svPre.f bt146.1 bt146.2.1 bt146.2.2.1 bt146.2.2.2.1 bt146.2.2.2.2 a1).bind fun bt152 => ((laws_svGood.f kj3 (([(⟨bt152.1, bt152.2.1, bt152.2.2.1, bt152.2.2.2.1, bt152.2.2.2.2⟩ : S28), (⟨bt146.1, bt146.2.1, IntKind.u64.wrap (bt146.2.2.1 + 1), a2, (⟨#[]⟩ : ByteArray)⟩ : S28)] : List (S28)))).bind fun t160 => (if t160 = true then (laws_FnSemverReleaseAbove.j1 kj3 a1 ((IntKind.u64.wrap (bt146.2.2.1 + 1)) == 0) bt146.1 bt146.2.1 bt146.2.2.1 bt146.2.2.2.1 bt146.2.2.2.2 bt146.1 bt146.2.1 (IntKind.u64.wrap (bt146.2.2.1 + 1)) a2 (⟨#[]⟩ : ByteArray)) else (laws_FnSemverReleaseAbove.j1 kj3 a1 true bt146.1 bt146.2.1 bt146.2.2.1 bt146.2.2.2.1 bt146.2.2.2.2 bt146.1 bt146.2.1 (IntKind.u64.wrap (bt146.2.2.1 + 1)) a2 (⟨#[]⟩ : ByteArray)))))))) = some r := by rw [if_neg (show ¬ (false = true) by decide)] at H; exact H
        clear H
        have H := H1
        clear H1
        replace H := Option.bind_eq_some_iff.mp H
        obtain ⟨⟨t146, t147, t148, t149, t150⟩, A160, H⟩ := H
        replace H : (if a1.toList = ([] : List UInt8) then (laws_FnSemverReleaseAbove.j1 kj3 a1 true t146 t147 t148 t149 t150 t146 t147 (IntKind.u64.wrap (t148 + 1)) a2 (⟨#[]⟩ : ByteArray)) else (if a2.toList = ([] : List UInt8) then (laws_FnSemverReleaseAbove.j1 kj3 a1 true t146 t147 t148 t149 t150 t146 t147 (IntKind.u64.wrap (t148 + 1)) a2 (⟨#[]⟩ : ByteArray)) else ((laws_svPre.f t146 t147 t148 t149 t150 a1).bind fun bt152 => ((laws_svGood.f kj3 (([(⟨bt152.1, bt152.2.1, bt152.2.2.1, bt152.2.2.2.1, bt152.2.2.2.2⟩ : S28), (⟨t146, t147, IntKind.u64.wrap (t148 + 1), a2, (⟨#[]⟩ : ByteArray)⟩ : S28)] : List (S28)))).bind fun t160 => (if t160 = true then (laws_FnSemverReleaseAbove.j1 kj3 a1 ((IntKind.u64.wrap (t148 + 1)) == 0) t146 t147 t148 t149 t150 t146 t147 (IntKind.u64.wrap (t148 + 1)) a2 (⟨#[]⟩ : ByteArray)) else (laws_FnSemverReleaseAbove.j1 kj3 a1 true t146 t147 t148 t149 t150 t146 t147 (IntKind.u64.wrap (t148 + 1)) a2 (⟨#[]⟩ : ByteArray))))))) = some r := H
        have A16 := Aside0.mk A160
        clear A160
        have HC17 := Aside0.mk H
        clear H
        have hcz18_0 : wc.cell? ⟨gb144, 0, none⟩ = some (.int .u64 a0_0) := (blk_cell BK144.out 0).trans rfl
        have hcz18_1 : wc.cell? ⟨gb144, 1, none⟩ = some (.int .u64 a0_1) := (blk_cell BK144.out 1).trans rfl
        have hcz18_2 : wc.cell? ⟨gb144, 2, none⟩ = some (.int .u64 a0_2) := (blk_cell BK144.out 2).trans rfl
        have hcz18_3 : wc.cell? ⟨gb144, 3, none⟩ = some (.string a0_3) := (blk_cell BK144.out 3).trans rfl
        have hcz18_4 : wc.cell? ⟨gb144, 4, none⟩ = some (.string a0_4) := (blk_cell BK144.out 4).trans rfl
        have hfz18_0 := blk_frozen BK144.out 0
        have hfz18_1 := blk_frozen BK144.out 1
        have hfz18_2 := blk_frozen BK144.out 2
        have hfz18_3 := blk_frozen BK144.out 3
        have hfz18_4 := blk_frozen BK144.out 4
        go_upto_region 5 with (first | ((with_reducible refine gate_callee (f := 22) rfl ?_); refine goesL_ (some 22) rfl rfl Tryd.func22 (by kernel_rfl) rfl #[.agg #[.int .u64 a0_0, .int .u64 a0_1, .int .u64 a0_2, .string a0_3, .string a0_4]] rfl (by (try simp only [List.map_toArray, List.map_cons, List.map_nil]); first | done | rfl | (simp only [List.length_drop, List.length_take]; rfl)) ?_; (with_reducible refine (spec_Bare.calls a0_0 a0_1 a0_2 a0_3 a0_4 t146 t147 t148 t149 t150 _ A16.out).mono ?_); rintro e w19 ⟨rfl, hb⟩; refine ⟨_, rfl, ?_⟩; have n0_ := Aside0.mk (blk_below (g := gb144) (o := .cells #[.int .u64 a0_0, .int .u64 a0_1, .int .u64 a0_2, .string a0_3, .string a0_4] 28 (0, 0)) (by (with_reducible repeat (first | refine blk_drewN ?_ _ | refine blk_drew ?_ | refine blk_alloc ?_ _)); exact BK144.out) hb); have n1_ := Aside0.mk (below_step (by repeat (first | (with_reducible first | exact HB.out | apply below_alloc | apply pw_below_drewN | apply below_drew1 | refine below_set ?_ GE144.out) | exact HB.out)) hb); clear BK144; clear HB; have BK144 := n0_; have HB := n1_; clear n0_ n1_; (try clear hb); (try clear hb2); (try clear hk); (try clear hi); have hcz20_0 : w19.cell? ⟨gb144, 0, none⟩ = some (.int .u64 a0_0) := (blk_cell BK144.out 0).trans rfl; have hcz20_1 : w19.cell? ⟨gb144, 1, none⟩ = some (.int .u64 a0_1) := (blk_cell BK144.out 1).trans rfl; have hcz20_2 : w19.cell? ⟨gb144, 2, none⟩ = some (.int .u64 a0_2) := (blk_cell BK144.out 2).trans rfl; have hcz20_3 : w19.cell? ⟨gb144, 3, none⟩ = some (.string a0_3) := (blk_cell BK144.out 3).trans rfl; have hcz20_4 : w19.cell? ⟨gb144, 4, none⟩ = some (.string a0_4) := (blk_cell BK144.out 4).trans rfl; have hfz20_0 := blk_frozen BK144.out 0; have hfz20_1 := blk_frozen BK144.out 1; have hfz20_2 := blk_frozen BK144.out 2; have hfz20_3 := blk_frozen BK144.out 3; have hfz20_4 := blk_frozen BK144.out 4) | ((with_reducible refine gate_dst (N := 7) rfl ?_); (try (refine gate_guard (by rfl) ?_; dsimp only)); refine box_event ?hg (N := 7) ?hd (cs := #[.int .u64 0, .int .u64 0, .int .u64 0, .string (⟨#[]⟩ : ByteArray), .string (⟨#[]⟩ : ByteArray)]) (t := 28) ?hr ?_; (case hd => rfl); (case hg => rfl); (case hr => first | (go_simp; done) | (go_simp; rfl) | (go_simp; simp [u8w]; done)); intro gb151 hg w21 hbox hb; have n0_ := Aside0.mk (blk_below (g := gb144) (o := .cells #[.int .u64 t146, .int .u64 t147, .int .u64 t148, .string t149, .string t150] 28 (0, 0)) (by (with_reducible repeat (first | refine blk_drewN ?_ _ | refine blk_drew ?_ | refine blk_alloc ?_ _)); refine blk_put (cs := #[.int .u64 t146, .int .u64 t147, .int .u64 t148, .string t149, .string a0_4]) ?_ 4 _ rfl; (with_reducible repeat (first | refine blk_drewN ?_ _ | refine blk_drew ?_ | refine blk_alloc ?_ _)); refine blk_put (cs := #[.int .u64 t146, .int .u64 t147, .int .u64 t148, .string a0_3, .string a0_4]) ?_ 3 _ rfl; (with_reducible repeat (first | refine blk_drewN ?_ _ | refine blk_drew ?_ | refine blk_alloc ?_ _)); refine blk_put (cs := #[.int .u64 t146, .int .u64 t147, .int .u64 a0_2, .string a0_3, .string a0_4]) ?_ 2 _ rfl; (with_reducible repeat (first | refine blk_drewN ?_ _ | refine blk_drew ?_ | refine blk_alloc ?_ _)); refine blk_put (cs := #[.int .u64 t146, .int .u64 a0_1, .int .u64 a0_2, .string a0_3, .string a0_4]) ?_ 1 _ rfl; (with_reducible repeat (first | refine blk_drewN ?_ _ | refine blk_drew ?_ | refine blk_alloc ?_ _)); refine blk_put (cs := #[.int .u64 a0_0, .int .u64 a0_1, .int .u64 a0_2, .string a0_3, .string a0_4]) ?_ 0 _ rfl; (with_reducible repeat (first | refine blk_drewN ?_ _ | refine blk_drew ?_ | refine blk_alloc ?_ _)); exact BK144.out) hb); have n1_ := Aside0.mk (below_step (by repeat (first | (with_reducible first | exact HB.out | apply below_alloc | apply pw_below_drewN | apply below_drew1 | refine below_set ?_ GE144.out) | exact HB.out)) hb); have n2_ := Aside0.mk (hbox); have n3_ := Aside0.mk ((by rw [hg]; exact (below_size (by repeat (first | (with_reducible first | exact HB.out | apply below_alloc | apply pw_below_drewN | apply below_drew1 | refine below_set ?_ GE144.out) | exact HB.out))) : w.heap.size ≤ gb151)); have n4_ := Aside0.mk ((by rw [hg]; exact (below_size (by repeat (first | (with_reducible first | exact HB.out | apply below_alloc | apply pw_below_drewN | apply below_drew1 | refine below_set ?_ GE144.out) | exact HB.out))) : w.heap.size ≤ gb151)); have n5_ := Aside0.mk ((by rw [hg]; exact Nat.ne_of_lt (blk_lt (g := gb144) (o := .cells #[.int .u64 t146, .int .u64 t147, .int .u64 t148, .string t149, .string t150] 28 (0, 0)) (by (with_reducible repeat (first | refine blk_drewN ?_ _ | refine blk_drew ?_ | refine blk_alloc ?_ _)); refine blk_put (cs := #[.int .u64 t146, .int .u64 t147, .int .u64 t148, .string t149, .string a0_4]) ?_ 4 _ rfl; (with_reducible repeat (first | refine blk_drewN ?_ _ | refine blk_drew ?_ | refine blk_alloc ?_ _)); refine blk_put (cs := #[.int .u64 t146, .int .u64 t147, .int .u64 t148, .string a0_3, .string a0_4]) ?_ 3 _ rfl; (with_reducible repeat (first | refine blk_drewN ?_ _ | refine blk_drew ?_ | refine blk_alloc ?_ _)); refine blk_put (cs := #[.int .u64 t146, .int .u64 t147, .int .u64 a0_2, .string a0_3, .string a0_4]) ?_ 2 _ rfl; (with_reducible repeat (first | refine blk_drewN ?_ _ | refine blk_drew ?_ | refine blk_alloc ?_ _)); refine blk_put (cs := #[.int .u64 t146, .int .u64 a0_1, .int .u64 a0_2, .string a0_3, .string a0_4]) ?_ 1 _ rfl; (with_reducible repeat (first | refine blk_drewN ?_ _ | refine blk_drew ?_ | refine blk_alloc ?_ _)); refine blk_put (cs := #[.int .u64 a0_0, .int .u64 a0_1, .int .u64 a0_2, .string a0_3, .string a0_4]) ?_ 0 _ rfl; (with_reducible repeat (first | refine blk_drewN ?_ _ | refine blk_drew ?_ | refine blk_alloc ?_ _)); exact BK144.out)) : gb144 ≠ gb151)); have n6_ := Aside0.mk ((by rw [hg]; exact Nat.ne_of_gt (blk_lt (g := gb144) (o := .cells #[.int .u64 t146, .int .u64 t147, .int .u64 t148, .string t149, .string t150] 28 (0, 0)) (by (with_reducible repeat (first | refine blk_drewN ?_ _ | refine blk_drew ?_ | refine blk_alloc ?_ _)); refine blk_put (cs := #[.int .u64 t146, .int .u64 t147, .int .u64 t148, .string t149, .string a0_4]) ?_ 4 _ rfl; (with_reducible repeat (first | refine blk_drewN ?_ _ | refine blk_drew ?_ | refine blk_alloc ?_ _)); refine blk_put (cs := #[.int .u64 t146, .int .u64 t147, .int .u64 t148, .string a0_3, .string a0_4]) ?_ 3 _ rfl; (with_reducible repeat (first | refine blk_drewN ?_ _ | refine blk_drew ?_ | refine blk_alloc ?_ _)); refine blk_put (cs := #[.int .u64 t146, .int .u64 t147, .int .u64 a0_2, .string a0_3, .string a0_4]) ?_ 2 _ rfl; (with_reducible repeat (first | refine blk_drewN ?_ _ | refine blk_drew ?_ | refine blk_alloc ?_ _)); refine blk_put (cs := #[.int .u64 t146, .int .u64 a0_1, .int .u64 a0_2, .string a0_3, .string a0_4]) ?_ 1 _ rfl; (with_reducible repeat (first | refine blk_drewN ?_ _ | refine blk_drew ?_ | refine blk_alloc ?_ _)); refine blk_put (cs := #[.int .u64 a0_0, .int .u64 a0_1, .int .u64 a0_2, .string a0_3, .string a0_4]) ?_ 0 _ rfl; (with_reducible repeat (first | refine blk_drewN ?_ _ | refine blk_drew ?_ | refine blk_alloc ?_ _)); exact BK144.out)) : gb151 ≠ gb144)); clear BK144; clear HB; have BK144 := n0_; have HB := n1_; have BK151 := n2_; have GW151 := n3_; have GE151 := n4_; have NB144_151 := n5_; have NB151_144 := n6_; clear n0_ n1_ n2_ n3_ n4_ n5_ n6_; clear hb hbox hg; have hnb22 := NB151_144.out; have hnc22 := NB144_151.out; have hcz23_0 : w21.cell? ⟨gb151, 0, none⟩ = some (.int .u64 0) := (blk_cell BK151.out 0).trans rfl; have hcz23_1 : w21.cell? ⟨gb151, 1, none⟩ = some (.int .u64 0) := (blk_cell BK151.out 1).trans rfl; have hcz23_2 : w21.cell? ⟨gb151, 2, none⟩ = some (.int .u64 0) := (blk_cell BK151.out 2).trans rfl; have hcz23_3 : w21.cell? ⟨gb151, 3, none⟩ = some (.string (⟨#[]⟩ : ByteArray)) := (blk_cell BK151.out 3).trans rfl; have hcz23_4 : w21.cell? ⟨gb151, 4, none⟩ = some (.string (⟨#[]⟩ : ByteArray)) := (blk_cell BK151.out 4).trans rfl; have hfz23_0 := blk_frozen BK151.out 0; have hfz23_1 := blk_frozen BK151.out 1; have hfz23_2 := blk_frozen BK151.out 2; have hfz23_3 := blk_frozen BK151.out 3; have hfz23_4 := blk_frozen BK151.out 4))
        (try simp only [Act.put, List.setIfInBounds_toArray, List.set_cons_zero, List.set_cons_succ])
        go_cut [51] (fun v51 wc => ∃ (kq : Nat) (x51_16 : Bool), v51 = .bool x51_16 ∧ Aside0 (laws_FnSemverReleaseAbove.j1 kq a1 x51_16 t146 t147 t148 t149 t150 t146 t147 (IntKind.u64.wrap (t148 + 1)) a2 (⟨#[]⟩ : ByteArray) = some r) ∧ Aside0 (kq ≤ kj3) ∧ Aside0 (wc.heap[gb144]? = some (.cells #[.int .u64 t146, .int .u64 t147, .int .u64 t148, .string t149, .string t150] 28 (0, 0))) ∧ Aside0 (wc.heap[gb151]? = some (.cells #[.int .u64 t146, .int .u64 t147, .int .u64 (IntKind.u64.wrap (t148 + 1)), .string a2, .string (⟨#[]⟩ : ByteArray)] 28 (0, 0))) ∧ Aside0 (Below w.heap.size w wc))
        case first =>
          have H := HC17.out
          clear HC17
          by_cases c24 : a1.toList = ([] : List UInt8)
          · rw [if_pos c24] at H
            have c24b0 : (a1.toList == ([] : List UInt8)) = true := beq_iff_eq.mpr c24
            have c24b1 : (a1.toList != ([] : List UInt8)) = false := bne_eq_false_iff_eq.mpr c24
            clear c24
            (first | rw [c24b0] | (simp only [i64_w, i32_w]; rw [c24b0]) | skip)
            have H' := Aside0.mk H
            clear H
            try go_wp2
            have n0_ : Aside0 ((((((w21.setCell ⟨gb151, 0, none⟩ (.int .u64 t146)).setCell ⟨gb151, 1, none⟩ (.int .u64 t147)).setCell ⟨gb151, 2, none⟩ (.int .u64 (IntKind.u64.wrap (t148 + 1)))).setCell ⟨gb151, 3, none⟩ (.string a2)).setCell ⟨gb151, 4, none⟩ (.string (⟨#[]⟩ : ByteArray))).heap[gb144]? = some (.cells #[.int .u64 t146, .int .u64 t147, .int .u64 t148, .string t149, .string t150] 28 (0, 0))) := ⟨by (with_reducible repeat (first | refine blk_drewN ?_ _ | refine blk_drew ?_ | refine blk_alloc ?_ _)); refine blk_far ?_ NB144_151.out _; (with_reducible repeat (first | refine blk_drewN ?_ _ | refine blk_drew ?_ | refine blk_alloc ?_ _)); refine blk_far ?_ NB144_151.out _; (with_reducible repeat (first | refine blk_drewN ?_ _ | refine blk_drew ?_ | refine blk_alloc ?_ _)); refine blk_far ?_ NB144_151.out _; (with_reducible repeat (first | refine blk_drewN ?_ _ | refine blk_drew ?_ | refine blk_alloc ?_ _)); refine blk_far ?_ NB144_151.out _; (with_reducible repeat (first | refine blk_drewN ?_ _ | refine blk_drew ?_ | refine blk_alloc ?_ _)); refine blk_far ?_ NB144_151.out _; (with_reducible repeat (first | refine blk_drewN ?_ _ | refine blk_drew ?_ | refine blk_alloc ?_ _)); exact BK144.out⟩
            have n1_ : Aside0 ((((((w21.setCell ⟨gb151, 0, none⟩ (.int .u64 t146)).setCell ⟨gb151, 1, none⟩ (.int .u64 t147)).setCell ⟨gb151, 2, none⟩ (.int .u64 (IntKind.u64.wrap (t148 + 1)))).setCell ⟨gb151, 3, none⟩ (.string a2)).setCell ⟨gb151, 4, none⟩ (.string (⟨#[]⟩ : ByteArray))).heap[gb151]? = some (.cells #[.int .u64 t146, .int .u64 t147, .int .u64 (IntKind.u64.wrap (t148 + 1)), .string a2, .string (⟨#[]⟩ : ByteArray)] 28 (0, 0))) := ⟨by (with_reducible repeat (first | refine blk_drewN ?_ _ | refine blk_drew ?_ | refine blk_alloc ?_ _)); refine blk_put (cs := #[.int .u64 t146, .int .u64 t147, .int .u64 (IntKind.u64.wrap (t148 + 1)), .string a2, .string (⟨#[]⟩ : ByteArray)]) ?_ 4 _ rfl; (with_reducible repeat (first | refine blk_drewN ?_ _ | refine blk_drew ?_ | refine blk_alloc ?_ _)); refine blk_put (cs := #[.int .u64 t146, .int .u64 t147, .int .u64 (IntKind.u64.wrap (t148 + 1)), .string (⟨#[]⟩ : ByteArray), .string (⟨#[]⟩ : ByteArray)]) ?_ 3 _ rfl; (with_reducible repeat (first | refine blk_drewN ?_ _ | refine blk_drew ?_ | refine blk_alloc ?_ _)); refine blk_put (cs := #[.int .u64 t146, .int .u64 t147, .int .u64 0, .string (⟨#[]⟩ : ByteArray), .string (⟨#[]⟩ : ByteArray)]) ?_ 2 _ rfl; (with_reducible repeat (first | refine blk_drewN ?_ _ | refine blk_drew ?_ | refine blk_alloc ?_ _)); refine blk_put (cs := #[.int .u64 t146, .int .u64 0, .int .u64 0, .string (⟨#[]⟩ : ByteArray), .string (⟨#[]⟩ : ByteArray)]) ?_ 1 _ rfl; (with_reducible repeat (first | refine blk_drewN ?_ _ | refine blk_drew ?_ | refine blk_alloc ?_ _)); refine blk_put (cs := #[.int .u64 0, .int .u64 0, .int .u64 0, .string (⟨#[]⟩ : ByteArray), .string (⟨#[]⟩ : ByteArray)]) ?_ 0 _ rfl; (with_reducible repeat (first | refine blk_drewN ?_ _ | refine blk_drew ?_ | refine blk_alloc ?_ _)); exact BK151.out⟩
            have n2_ : Aside0 (Below w.heap.size w (((((w21.setCell ⟨gb151, 0, none⟩ (.int .u64 t146)).setCell ⟨gb151, 1, none⟩ (.int .u64 t147)).setCell ⟨gb151, 2, none⟩ (.int .u64 (IntKind.u64.wrap (t148 + 1)))).setCell ⟨gb151, 3, none⟩ (.string a2)).setCell ⟨gb151, 4, none⟩ (.string (⟨#[]⟩ : ByteArray)))) := ⟨by repeat (first | (with_reducible first | exact HB.out | apply below_alloc | apply pw_below_drewN | apply below_drew1 | refine below_set ?_ GE144.out | refine below_set ?_ GE151.out) | exact HB.out)⟩
            (try clear BK144)
            (try clear BK151)
            (try clear HB)
            generalize (((((w21.setCell ⟨gb151, 0, none⟩ (.int .u64 t146)).setCell ⟨gb151, 1, none⟩ (.int .u64 t147)).setCell ⟨gb151, 2, none⟩ (.int .u64 (IntKind.u64.wrap (t148 + 1)))).setCell ⟨gb151, 3, none⟩ (.string a2)).setCell ⟨gb151, 4, none⟩ (.string (⟨#[]⟩ : ByteArray))) = w25 at n0_ n1_ n2_ ⊢
            have BK144 := n0_
            have BK151 := n1_
            have HB := n2_
            clear n0_ n1_ n2_
            have n0_ := Aside0.mk (blk_drew BK144.out)
            have n1_ := Aside0.mk (blk_drew BK151.out)
            have n2_ := Aside0.mk (below_drew1 HB.out)
            clear BK144
            clear BK151
            clear HB
            have BK144 := n0_
            have BK151 := n1_
            have HB := n2_
            clear n0_ n1_ n2_
            refine start_ (n := 20) (S := fun w' => True) (ds := []) #[false, false, false, false, false, false, false, false, false, false, false, false, false, false, false, false, false, false, false, false] (by kernel_rfl) rfl rfl trivial (fun hHeld => ?_); refine with_tabW laws_FnSemverReleaseAbove.tab5 laws_FnSemverReleaseAbove.bits5 (fun HT_ HW_ => ?_)
            generalize w25.drew = w26 at BK144 BK151 HB hHeld ⊢
            refine pure_ (i := 0) (N := some 32) (v := ?_) (a' := ?_) #[true, false, false, false, false, false, false, false, false, false, false, false, false, false, false, false, false, false, false, false] rfl rfl (any_of HT_.out (by kernel_rfl)) (fun _ _ _ h => h) (Or.inl ⟨by rfl, ?_⟩) ?_ ?_
            rotate_left
            · intro w'
              go_simp
              with_reducible rfl
            rotate_left
            · simp only [Act.put, List.setIfInBounds_toArray, List.set_cons_zero, List.set_cons_succ, i64_w, i32_w]
              rfl
            refine pure_ (i := 1) (N := some 33) (v := ?_) (a' := ?_) #[true, true, false, false, false, false, false, false, false, false, false, false, false, false, false, false, false, false, false, false] rfl rfl (any_of HT_.out (by kernel_rfl)) (fun _ _ _ h => h) (Or.inl ⟨by rfl, ?_⟩) ?_ ?_
            rotate_left
            · intro w'
              go_simp
              with_reducible rfl
            rotate_left
            · simp only [Act.put, List.setIfInBounds_toArray, List.set_cons_zero, List.set_cons_succ, i64_w, i32_w]
              rfl
            refine pure_ (i := 2) (N := some 34) (v := ?_) (a' := ?_) #[true, true, true, false, false, false, false, false, false, false, false, false, false, false, false, false, false, false, false, false] rfl rfl (any_of HT_.out (by kernel_rfl)) (fun _ _ _ h => h) (Or.inl ⟨by rfl, ?_⟩) ?_ ?_
            rotate_left
            · intro w'
              go_simp
              with_reducible rfl
            rotate_left
            · simp only [Act.put, List.setIfInBounds_toArray, List.set_cons_zero, List.set_cons_succ, i64_w, i32_w]
              rfl
            refine pure_ (i := 3) (N := some 35) (v := undef) (a' := ?_) #[true, true, true, true, false, false, false, false, false, false, false, false, false, false, false, false, false, false, false, false] rfl rfl (any_of HT_.out (by kernel_rfl)) (fun _ _ _ h => h) (Or.inr ⟨by rfl, rfl⟩) ?_ ?_
            rotate_left
            · simp only [Act.put, List.setIfInBounds_toArray, List.set_cons_zero, List.set_cons_succ, i64_w, i32_w]
              rfl
            refine pure_ (i := 4) (N := some 36) (v := undef) (a' := ?_) #[true, true, true, true, true, false, false, false, false, false, false, false, false, false, false, false, false, false, false, false] rfl rfl (any_of HT_.out (by kernel_rfl)) (fun _ _ _ h => h) (Or.inr ⟨by rfl, rfl⟩) ?_ ?_
            rotate_left
            · simp only [Act.put, List.setIfInBounds_toArray, List.set_cons_zero, List.set_cons_succ, i64_w, i32_w]
              rfl
            refine pure_ (i := 5) (N := some 37) (v := ?_) (a' := ?_) #[true, true, true, true, true, true, false, false, false, false, false, false, false, false, false, false, false, false, false, false] rfl rfl (any_of HT_.out (by kernel_rfl)) (fun _ _ _ h => h) (Or.inl ⟨by rfl, ?_⟩) ?_ ?_
            rotate_left
            · intro w'
              go_simp
              with_reducible rfl
            rotate_left
            · simp only [Act.put, List.setIfInBounds_toArray, List.set_cons_zero, List.set_cons_succ, i64_w, i32_w]
              rfl
            refine pure_ (i := 6) (N := some 38) (v := ?_) (a' := ?_) #[true, true, true, true, true, true, true, false, false, false, false, false, false, false, false, false, false, false, false, false] rfl rfl (any_of HT_.out (by kernel_rfl)) (fun _ _ _ h => h) (Or.inl ⟨by rfl, ?_⟩) ?_ ?_
            rotate_left
            · intro w'
              go_simp
              with_reducible rfl
            rotate_left
            · simp only [Act.put, List.setIfInBounds_toArray, List.set_cons_zero, List.set_cons_succ, i64_w, i32_w]
              rfl
            refine pure_ (i := 7) (N := some 39) (v := undef) (a' := ?_) #[true, true, true, true, true, true, true, true, false, false, false, false, false, false, false, false, false, false, false, false] rfl rfl (any_of HT_.out (by kernel_rfl)) (fun _ _ _ h => h) (Or.inr ⟨by rfl, rfl⟩) ?_ ?_
            rotate_left
            · simp only [Act.put, List.setIfInBounds_toArray, List.set_cons_zero, List.set_cons_succ, i64_w, i32_w]
              rfl
            refine pure_ (i := 8) (N := some 40) (v := undef) (a' := ?_) #[true, true, true, true, true, true, true, true, true, false, false, false, false, false, false, false, false, false, false, false] rfl rfl (any_of HT_.out (by kernel_rfl)) (fun _ _ _ h => h) (Or.inr ⟨by rfl, rfl⟩) ?_ ?_
            rotate_left
            · simp only [Act.put, List.setIfInBounds_toArray, List.set_cons_zero, List.set_cons_succ, i64_w, i32_w]
              rfl
            refine pure_ (i := 9) (N := some 41) (v := undef) (a' := ?_) #[true, true, true, true, true, true, true, true, true, true, false, false, false, false, false, false, false, false, false, false] rfl rfl (any_of HT_.out (by kernel_rfl)) (fun _ _ _ h => h) (Or.inr ⟨by rfl, rfl⟩) ?_ ?_
            rotate_left
            · simp only [Act.put, List.setIfInBounds_toArray, List.set_cons_zero, List.set_cons_succ, i64_w, i32_w]
              rfl
            refine pure_ (i := 10) (N := some 42) (v := undef) (a' := ?_) #[true, true, true, true, true, true, true, true, true, true, true, false, false, false, false, false, false, false, false, false] rfl rfl (any_of HT_.out (by kernel_rfl)) (fun _ _ _ h => h) (Or.inr ⟨by rfl, rfl⟩) ?_ ?_
            rotate_left
            · simp only [Act.put, List.setIfInBounds_toArray, List.set_cons_zero, List.set_cons_succ, i64_w, i32_w]
              rfl
            refine pure_ (i := 11) (N := some 43) (v := undef) (a' := ?_) #[true, true, true, true, true, true, true, true, true, true, true, true, false, false, false, false, false, false, false, false] rfl rfl (any_of HT_.out (by kernel_rfl)) (fun _ _ _ h => h) (Or.inr ⟨by rfl, rfl⟩) ?_ ?_
            rotate_left
            · simp only [Act.put, List.setIfInBounds_toArray, List.set_cons_zero, List.set_cons_succ, i64_w, i32_w]
              rfl
            refine pure_ (i := 12) (N := some 44) (v := undef) (a' := ?_) #[true, true, true, true, true, true, true, true, true, true, true, true, true, false, false, false, false, false, false, false] rfl rfl (any_of HT_.out (by kernel_rfl)) (fun _ _ _ h => h) (Or.inr ⟨by rfl, rfl⟩) ?_ ?_
            rotate_left
            · simp only [Act.put, List.setIfInBounds_toArray, List.set_cons_zero, List.set_cons_succ, i64_w, i32_w]
              rfl
            refine pure_ (i := 13) (N := some 45) (v := undef) (a' := ?_) #[true, true, true, true, true, true, true, true, true, true, true, true, true, true, false, false, false, false, false, false] rfl rfl (any_of HT_.out (by kernel_rfl)) (fun _ _ _ h => h) (Or.inr ⟨by rfl, rfl⟩) ?_ ?_
            rotate_left
            · simp only [Act.put, List.setIfInBounds_toArray, List.set_cons_zero, List.set_cons_succ, i64_w, i32_w]
              rfl
            refine pure_ (i := 14) (N := some 46) (v := ?_) (a' := ?_) #[true, true, true, true, true, true, true, true, true, true, true, true, true, true, true, false, false, false, false, false] rfl rfl (any_of HT_.out (by kernel_rfl)) (fun _ _ _ h => h) (Or.inl ⟨by rfl, ?_⟩) ?_ ?_
            rotate_left
            · intro w'
              go_simp
              with_reducible rfl
            rotate_left
            · simp only [Act.put, List.setIfInBounds_toArray, List.set_cons_zero, List.set_cons_succ, i64_w, i32_w]
              rfl
            refine pure_ (i := 15) (N := some 47) (v := ?_) (a' := ?_) #[true, true, true, true, true, true, true, true, true, true, true, true, true, true, true, true, false, false, false, false] rfl rfl (any_of HT_.out (by kernel_rfl)) (fun _ _ _ h => h) (Or.inl ⟨by rfl, ?_⟩) ?_ ?_
            rotate_left
            · intro w'
              go_simp
              with_reducible rfl
            rotate_left
            · simp only [Act.put, List.setIfInBounds_toArray, List.set_cons_zero, List.set_cons_succ, i64_w, i32_w]
              rfl
            refine pure_ (i := 16) (N := some 48) (v := undef) (a' := ?_) #[true, true, true, true, true, true, true, true, true, true, true, true, true, true, true, true, true, false, false, false] rfl rfl (any_of HT_.out (by kernel_rfl)) (fun _ _ _ h => h) (Or.inr ⟨by rfl, rfl⟩) ?_ ?_
            rotate_left
            · simp only [Act.put, List.setIfInBounds_toArray, List.set_cons_zero, List.set_cons_succ, i64_w, i32_w]
              rfl
            refine pure_ (i := 17) (N := some 49) (v := undef) (a' := ?_) #[true, true, true, true, true, true, true, true, true, true, true, true, true, true, true, true, true, true, false, false] rfl rfl (any_of HT_.out (by kernel_rfl)) (fun _ _ _ h => h) (Or.inr ⟨by rfl, rfl⟩) ?_ ?_
            rotate_left
            · simp only [Act.put, List.setIfInBounds_toArray, List.set_cons_zero, List.set_cons_succ, i64_w, i32_w]
              rfl
            refine pure_ (i := 18) (N := some 50) (v := undef) (a' := ?_) #[true, true, true, true, true, true, true, true, true, true, true, true, true, true, true, true, true, true, true, false] rfl rfl (any_of HT_.out (by kernel_rfl)) (fun _ _ _ h => h) (Or.inr ⟨by rfl, rfl⟩) ?_ ?_
            rotate_left
            · simp only [Act.put, List.setIfInBounds_toArray, List.set_cons_zero, List.set_cons_succ, i64_w, i32_w]
              rfl
            refine pure_ (i := 19) (N := some 51) (v := ?_) (a' := ?_) #[true, true, true, true, true, true, true, true, true, true, true, true, true, true, true, true, true, true, true, true] rfl rfl (any_of HT_.out (by kernel_rfl)) (fun _ _ _ h => h) (Or.inl ⟨by rfl, ?_⟩) ?_ ?_
            rotate_left
            · intro w'
              go_simp
              with_reducible rfl
            rotate_left
            · simp only [Act.put, List.setIfInBounds_toArray, List.set_cons_zero, List.set_cons_succ, i64_w, i32_w]
              rfl
            refine done_ (done_of HT_.out (by kernel_rfl)) ?_
            try go_wp2
            go_meet
            case rel => exact ⟨_, (true), (by first | rfl | (simp; done) | (simp [*]; done)), H', ⟨by have := HJ3.out; first | omega | exact Nat.le_refl _⟩, ⟨by (with_reducible repeat (first | refine blk_drewN ?_ _ | refine blk_drew ?_ | refine blk_alloc ?_ _)); exact BK144.out⟩, ⟨by (with_reducible repeat (first | refine blk_drewN ?_ _ | refine blk_drew ?_ | refine blk_alloc ?_ _)); exact BK151.out⟩, ⟨by repeat (first | (with_reducible first | exact HB.out | apply below_alloc | apply pw_below_drewN | apply below_drew1 | refine below_set ?_ GE144.out | refine below_set ?_ GE151.out) | exact HB.out)⟩⟩
          · rw [if_neg c24] at H
            have c24b0 : (a1.toList == ([] : List UInt8)) = false := beq_eq_false_iff_ne.mpr c24
            have c24b1 : (a1.toList != ([] : List UInt8)) = true := bne_iff_ne.mpr c24
            (first | rw [c24b0] | (simp only [i64_w, i32_w]; rw [c24b0]) | skip)
            by_cases c27 : a2.toList = ([] : List UInt8)
            · rw [if_pos c27] at H
              have c27b0 : (a2.toList == ([] : List UInt8)) = true := beq_iff_eq.mpr c27
              have c27b1 : (a2.toList != ([] : List UInt8)) = false := bne_eq_false_iff_eq.mpr c27
              clear c27
              have H' := Aside0.mk H
              clear H
              try go_wp2
              have n0_ : Aside0 ((((((w21.setCell ⟨gb151, 0, none⟩ (.int .u64 t146)).setCell ⟨gb151, 1, none⟩ (.int .u64 t147)).setCell ⟨gb151, 2, none⟩ (.int .u64 (IntKind.u64.wrap (t148 + 1)))).setCell ⟨gb151, 3, none⟩ (.string a2)).setCell ⟨gb151, 4, none⟩ (.string (⟨#[]⟩ : ByteArray))).heap[gb144]? = some (.cells #[.int .u64 t146, .int .u64 t147, .int .u64 t148, .string t149, .string t150] 28 (0, 0))) := ⟨by (with_reducible repeat (first | refine blk_drewN ?_ _ | refine blk_drew ?_ | refine blk_alloc ?_ _)); refine blk_far ?_ NB144_151.out _; (with_reducible repeat (first | refine blk_drewN ?_ _ | refine blk_drew ?_ | refine blk_alloc ?_ _)); refine blk_far ?_ NB144_151.out _; (with_reducible repeat (first | refine blk_drewN ?_ _ | refine blk_drew ?_ | refine blk_alloc ?_ _)); refine blk_far ?_ NB144_151.out _; (with_reducible repeat (first | refine blk_drewN ?_ _ | refine blk_drew ?_ | refine blk_alloc ?_ _)); refine blk_far ?_ NB144_151.out _; (with_reducible repeat (first | refine blk_drewN ?_ _ | refine blk_drew ?_ | refine blk_alloc ?_ _)); refine blk_far ?_ NB144_151.out _; (with_reducible repeat (first | refine blk_drewN ?_ _ | refine blk_drew ?_ | refine blk_alloc ?_ _)); exact BK144.out⟩
              have n1_ : Aside0 ((((((w21.setCell ⟨gb151, 0, none⟩ (.int .u64 t146)).setCell ⟨gb151, 1, none⟩ (.int .u64 t147)).setCell ⟨gb151, 2, none⟩ (.int .u64 (IntKind.u64.wrap (t148 + 1)))).setCell ⟨gb151, 3, none⟩ (.string a2)).setCell ⟨gb151, 4, none⟩ (.string (⟨#[]⟩ : ByteArray))).heap[gb151]? = some (.cells #[.int .u64 t146, .int .u64 t147, .int .u64 (IntKind.u64.wrap (t148 + 1)), .string a2, .string (⟨#[]⟩ : ByteArray)] 28 (0, 0))) := ⟨by (with_reducible repeat (first | refine blk_drewN ?_ _ | refine blk_drew ?_ | refine blk_alloc ?_ _)); refine blk_put (cs := #[.int .u64 t146, .int .u64 t147, .int .u64 (IntKind.u64.wrap (t148 + 1)), .string a2, .string (⟨#[]⟩ : ByteArray)]) ?_ 4 _ rfl; (with_reducible repeat (first | refine blk_drewN ?_ _ | refine blk_drew ?_ | refine blk_alloc ?_ _)); refine blk_put (cs := #[.int .u64 t146, .int .u64 t147, .int .u64 (IntKind.u64.wrap (t148 + 1)), .string (⟨#[]⟩ : ByteArray), .string (⟨#[]⟩ : ByteArray)]) ?_ 3 _ rfl; (with_reducible repeat (first | refine blk_drewN ?_ _ | refine blk_drew ?_ | refine blk_alloc ?_ _)); refine blk_put (cs := #[.int .u64 t146, .int .u64 t147, .int .u64 0, .string (⟨#[]⟩ : ByteArray), .string (⟨#[]⟩ : ByteArray)]) ?_ 2 _ rfl; (with_reducible repeat (first | refine blk_drewN ?_ _ | refine blk_drew ?_ | refine blk_alloc ?_ _)); refine blk_put (cs := #[.int .u64 t146, .int .u64 0, .int .u64 0, .string (⟨#[]⟩ : ByteArray), .string (⟨#[]⟩ : ByteArray)]) ?_ 1 _ rfl; (with_reducible repeat (first | refine blk_drewN ?_ _ | refine blk_drew ?_ | refine blk_alloc ?_ _)); refine blk_put (cs := #[.int .u64 0, .int .u64 0, .int .u64 0, .string (⟨#[]⟩ : ByteArray), .string (⟨#[]⟩ : ByteArray)]) ?_ 0 _ rfl; (with_reducible repeat (first | refine blk_drewN ?_ _ | refine blk_drew ?_ | refine blk_alloc ?_ _)); exact BK151.out⟩
              have n2_ : Aside0 (Below w.heap.size w (((((w21.setCell ⟨gb151, 0, none⟩ (.int .u64 t146)).setCell ⟨gb151, 1, none⟩ (.int .u64 t147)).setCell ⟨gb151, 2, none⟩ (.int .u64 (IntKind.u64.wrap (t148 + 1)))).setCell ⟨gb151, 3, none⟩ (.string a2)).setCell ⟨gb151, 4, none⟩ (.string (⟨#[]⟩ : ByteArray)))) := ⟨by repeat (first | (with_reducible first | exact HB.out | apply below_alloc | apply pw_below_drewN | apply below_drew1 | refine below_set ?_ GE144.out | refine below_set ?_ GE151.out) | exact HB.out)⟩
              (try clear BK144)
              (try clear BK151)
              (try clear HB)
              generalize (((((w21.setCell ⟨gb151, 0, none⟩ (.int .u64 t146)).setCell ⟨gb151, 1, none⟩ (.int .u64 t147)).setCell ⟨gb151, 2, none⟩ (.int .u64 (IntKind.u64.wrap (t148 + 1)))).setCell ⟨gb151, 3, none⟩ (.string a2)).setCell ⟨gb151, 4, none⟩ (.string (⟨#[]⟩ : ByteArray))) = w28 at n0_ n1_ n2_ ⊢
              have BK144 := n0_
              have BK151 := n1_
              have HB := n2_
              clear n0_ n1_ n2_
              have n0_ := Aside0.mk (blk_drew BK144.out)
              have n1_ := Aside0.mk (blk_drew BK151.out)
              have n2_ := Aside0.mk (below_drew1 HB.out)
              clear BK144
              clear BK151
              clear HB
              have BK144 := n0_
              have BK151 := n1_
              have HB := n2_
              clear n0_ n1_ n2_
              refine start_ (n := 20) (S := fun w' => True) (ds := []) #[false, false, false, false, false, false, false, false, false, false, false, false, false, false, false, false, false, false, false, false] (by kernel_rfl) rfl rfl trivial (fun hHeld => ?_); refine with_tabW laws_FnSemverReleaseAbove.tab5 laws_FnSemverReleaseAbove.bits5 (fun HT_ HW_ => ?_)
              generalize w28.drew = w29 at BK144 BK151 HB hHeld ⊢
              refine pure_ (i := 0) (N := some 32) (v := ?_) (a' := ?_) #[true, false, false, false, false, false, false, false, false, false, false, false, false, false, false, false, false, false, false, false] rfl rfl (any_of HT_.out (by kernel_rfl)) (fun _ _ _ h => h) (Or.inl ⟨by rfl, ?_⟩) ?_ ?_
              rotate_left
              · intro w'
                go_simp
                with_reducible rfl
              rotate_left
              · simp only [Act.put, List.setIfInBounds_toArray, List.set_cons_zero, List.set_cons_succ, i64_w, i32_w]
                rfl
              refine pure_ (i := 1) (N := some 33) (v := ?_) (a' := ?_) #[true, true, false, false, false, false, false, false, false, false, false, false, false, false, false, false, false, false, false, false] rfl rfl (any_of HT_.out (by kernel_rfl)) (fun _ _ _ h => h) (Or.inl ⟨by rfl, ?_⟩) ?_ ?_
              rotate_left
              · intro w'
                go_simp
                with_reducible rfl
              rotate_left
              · simp only [Act.put, List.setIfInBounds_toArray, List.set_cons_zero, List.set_cons_succ, i64_w, i32_w]
                rfl
              refine pure_ (i := 2) (N := some 34) (v := ?_) (a' := ?_) #[true, true, true, false, false, false, false, false, false, false, false, false, false, false, false, false, false, false, false, false] rfl rfl (any_of HT_.out (by kernel_rfl)) (fun _ _ _ h => h) (Or.inl ⟨by rfl, ?_⟩) ?_ ?_
              rotate_left
              · intro w'
                go_simp
                with_reducible rfl
              rotate_left
              · simp only [Act.put, List.setIfInBounds_toArray, List.set_cons_zero, List.set_cons_succ, i64_w, i32_w]
                rfl
              refine pure_ (i := 3) (N := some 35) (v := ?_) (a' := ?_) #[true, true, true, true, false, false, false, false, false, false, false, false, false, false, false, false, false, false, false, false] rfl rfl (any_of HT_.out (by kernel_rfl)) (fun _ _ _ h => h) (Or.inl ⟨by rfl, ?_⟩) ?_ ?_
              rotate_left
              · intro w'
                go_simp
                with_reducible rfl
              rotate_left
              · simp only [Act.put, List.setIfInBounds_toArray, List.set_cons_zero, List.set_cons_succ, i64_w, i32_w]
                rfl
              refine pure_ (i := 4) (N := some 36) (v := ?_) (a' := ?_) #[true, true, true, true, true, false, false, false, false, false, false, false, false, false, false, false, false, false, false, false] rfl rfl (any_of HT_.out (by kernel_rfl)) (fun _ _ _ h => h) (Or.inl ⟨by rfl, ?_⟩) ?_ ?_
              rotate_left
              · intro w'
                go_simp
                with_reducible rfl
              rotate_left
              · simp only [Act.put, List.setIfInBounds_toArray, List.set_cons_zero, List.set_cons_succ, i64_w, i32_w]
                rfl
              refine pure_ (i := 5) (N := some 37) (v := ?_) (a' := ?_) #[true, true, true, true, true, true, false, false, false, false, false, false, false, false, false, false, false, false, false, false] rfl rfl (any_of HT_.out (by kernel_rfl)) (fun _ _ _ h => h) (Or.inl ⟨by rfl, ?_⟩) ?_ ?_
              rotate_left
              · intro w'
                go_simp
                with_reducible rfl
              rotate_left
              · simp only [Act.put, List.setIfInBounds_toArray, List.set_cons_zero, List.set_cons_succ, i64_w, i32_w]
                rfl
              refine pure_ (i := 6) (N := some 38) (v := ?_) (a' := ?_) #[true, true, true, true, true, true, true, false, false, false, false, false, false, false, false, false, false, false, false, false] rfl rfl (any_of HT_.out (by kernel_rfl)) (fun _ _ _ h => h) (Or.inl ⟨by rfl, ?_⟩) ?_ ?_
              rotate_left
              · intro w'
                go_simp
                with_reducible rfl
              rotate_left
              · simp only [Act.put, List.setIfInBounds_toArray, List.set_cons_zero, List.set_cons_succ, i64_w, i32_w]
                rfl
              refine pure_ (i := 7) (N := some 39) (v := undef) (a' := ?_) #[true, true, true, true, true, true, true, true, false, false, false, false, false, false, false, false, false, false, false, false] rfl rfl (any_of HT_.out (by kernel_rfl)) (fun _ _ _ h => h) (Or.inr ⟨by rfl, rfl⟩) ?_ ?_
              rotate_left
              · simp only [Act.put, List.setIfInBounds_toArray, List.set_cons_zero, List.set_cons_succ, i64_w, i32_w]
                rfl
              refine pure_ (i := 8) (N := some 40) (v := undef) (a' := ?_) #[true, true, true, true, true, true, true, true, true, false, false, false, false, false, false, false, false, false, false, false] rfl rfl (any_of HT_.out (by kernel_rfl)) (fun _ _ _ h => h) (Or.inr ⟨by rfl, rfl⟩) ?_ ?_
              rotate_left
              · simp only [Act.put, List.setIfInBounds_toArray, List.set_cons_zero, List.set_cons_succ, i64_w, i32_w]
                rfl
              refine pure_ (i := 9) (N := some 41) (v := undef) (a' := ?_) #[true, true, true, true, true, true, true, true, true, true, false, false, false, false, false, false, false, false, false, false] rfl rfl (any_of HT_.out (by kernel_rfl)) (fun _ _ _ h => h) (Or.inr ⟨by rfl, rfl⟩) ?_ ?_
              rotate_left
              · simp only [Act.put, List.setIfInBounds_toArray, List.set_cons_zero, List.set_cons_succ, i64_w, i32_w]
                rfl
              refine pure_ (i := 10) (N := some 42) (v := undef) (a' := ?_) #[true, true, true, true, true, true, true, true, true, true, true, false, false, false, false, false, false, false, false, false] rfl rfl (any_of HT_.out (by kernel_rfl)) (fun _ _ _ h => h) (Or.inr ⟨by rfl, rfl⟩) ?_ ?_
              rotate_left
              · simp only [Act.put, List.setIfInBounds_toArray, List.set_cons_zero, List.set_cons_succ, i64_w, i32_w]
                rfl
              refine pure_ (i := 11) (N := some 43) (v := undef) (a' := ?_) #[true, true, true, true, true, true, true, true, true, true, true, true, false, false, false, false, false, false, false, false] rfl rfl (any_of HT_.out (by kernel_rfl)) (fun _ _ _ h => h) (Or.inr ⟨by rfl, rfl⟩) ?_ ?_
              rotate_left
              · simp only [Act.put, List.setIfInBounds_toArray, List.set_cons_zero, List.set_cons_succ, i64_w, i32_w]
                rfl
              refine pure_ (i := 12) (N := some 44) (v := undef) (a' := ?_) #[true, true, true, true, true, true, true, true, true, true, true, true, true, false, false, false, false, false, false, false] rfl rfl (any_of HT_.out (by kernel_rfl)) (fun _ _ _ h => h) (Or.inr ⟨by rfl, rfl⟩) ?_ ?_
              rotate_left
              · simp only [Act.put, List.setIfInBounds_toArray, List.set_cons_zero, List.set_cons_succ, i64_w, i32_w]
                rfl
              refine pure_ (i := 13) (N := some 45) (v := undef) (a' := ?_) #[true, true, true, true, true, true, true, true, true, true, true, true, true, true, false, false, false, false, false, false] rfl rfl (any_of HT_.out (by kernel_rfl)) (fun _ _ _ h => h) (Or.inr ⟨by rfl, rfl⟩) ?_ ?_
              rotate_left
              · simp only [Act.put, List.setIfInBounds_toArray, List.set_cons_zero, List.set_cons_succ, i64_w, i32_w]
                rfl
              refine pure_ (i := 14) (N := some 46) (v := ?_) (a' := ?_) #[true, true, true, true, true, true, true, true, true, true, true, true, true, true, true, false, false, false, false, false] rfl rfl (any_of HT_.out (by kernel_rfl)) (fun _ _ _ h => h) (Or.inl ⟨by rfl, ?_⟩) ?_ ?_
              rotate_left
              · intro w'
                go_simp
                with_reducible rfl
              rotate_left
              · simp only [Act.put, List.setIfInBounds_toArray, List.set_cons_zero, List.set_cons_succ, i64_w, i32_w]
                rfl
              refine pure_ (i := 15) (N := some 47) (v := ?_) (a' := ?_) #[true, true, true, true, true, true, true, true, true, true, true, true, true, true, true, true, false, false, false, false] rfl rfl (any_of HT_.out (by kernel_rfl)) (fun _ _ _ h => h) (Or.inl ⟨by rfl, ?_⟩) ?_ ?_
              rotate_left
              · intro w'
                go_simp
                with_reducible rfl
              rotate_left
              · simp only [Act.put, List.setIfInBounds_toArray, List.set_cons_zero, List.set_cons_succ, i64_w, i32_w]
                rfl
              refine pure_ (i := 16) (N := some 48) (v := undef) (a' := ?_) #[true, true, true, true, true, true, true, true, true, true, true, true, true, true, true, true, true, false, false, false] rfl rfl (any_of HT_.out (by kernel_rfl)) (fun _ _ _ h => h) (Or.inr ⟨by rfl, rfl⟩) ?_ ?_
              rotate_left
              · simp only [Act.put, List.setIfInBounds_toArray, List.set_cons_zero, List.set_cons_succ, i64_w, i32_w]
                rfl
              refine pure_ (i := 17) (N := some 49) (v := undef) (a' := ?_) #[true, true, true, true, true, true, true, true, true, true, true, true, true, true, true, true, true, true, false, false] rfl rfl (any_of HT_.out (by kernel_rfl)) (fun _ _ _ h => h) (Or.inr ⟨by rfl, rfl⟩) ?_ ?_
              rotate_left
              · simp only [Act.put, List.setIfInBounds_toArray, List.set_cons_zero, List.set_cons_succ, i64_w, i32_w]
                rfl
              refine pure_ (i := 18) (N := some 50) (v := undef) (a' := ?_) #[true, true, true, true, true, true, true, true, true, true, true, true, true, true, true, true, true, true, true, false] rfl rfl (any_of HT_.out (by kernel_rfl)) (fun _ _ _ h => h) (Or.inr ⟨by rfl, rfl⟩) ?_ ?_
              rotate_left
              · simp only [Act.put, List.setIfInBounds_toArray, List.set_cons_zero, List.set_cons_succ, i64_w, i32_w]
                rfl
              refine pure_ (i := 19) (N := some 51) (v := ?_) (a' := ?_) #[true, true, true, true, true, true, true, true, true, true, true, true, true, true, true, true, true, true, true, true] rfl rfl (any_of HT_.out (by kernel_rfl)) (fun _ _ _ h => h) (Or.inl ⟨by rfl, ?_⟩) ?_ ?_
              rotate_left
              · intro w'
                go_simp
                with_reducible rfl
              rotate_left
              · simp only [Act.put, List.setIfInBounds_toArray, List.set_cons_zero, List.set_cons_succ, i64_w, i32_w]
                rfl
              refine done_ (done_of HT_.out (by kernel_rfl)) ?_
              try go_wp2
              go_meet
              case rel => exact ⟨_, (true), (by first | rfl | (simp; done) | (simp [*]; done)), H', ⟨by have := HJ3.out; first | omega | exact Nat.le_refl _⟩, ⟨by (with_reducible repeat (first | refine blk_drewN ?_ _ | refine blk_drew ?_ | refine blk_alloc ?_ _)); exact BK144.out⟩, ⟨by (with_reducible repeat (first | refine blk_drewN ?_ _ | refine blk_drew ?_ | refine blk_alloc ?_ _)); exact BK151.out⟩, ⟨by repeat (first | (with_reducible first | exact HB.out | apply below_alloc | apply pw_below_drewN | apply below_drew1 | refine below_set ?_ GE144.out | refine below_set ?_ GE151.out) | exact HB.out)⟩⟩
            · rw [if_neg c27] at H
              have c27b0 : (a2.toList == ([] : List UInt8)) = false := beq_eq_false_iff_ne.mpr c27
              have c27b1 : (a2.toList != ([] : List UInt8)) = true := bne_iff_ne.mpr c27
              replace H := Option.bind_eq_some_iff.mp H
              obtain ⟨⟨t152, t153, t154, t155, t156⟩, A300, H⟩ := H
              replace H : ((laws_svGood.f kj3 (([(⟨t152, t153, t154, t155, t156⟩ : S28), (⟨t146, t147, IntKind.u64.wrap (t148 + 1), a2, (⟨#[]⟩ : ByteArray)⟩ : S28)] : List (S28)))).bind fun t160 => (if t160 = true then (laws_FnSemverReleaseAbove.j1 kj3 a1 ((IntKind.u64.wrap (t148 + 1)) == 0) t146 t147 t148 t149 t150 t146 t147 (IntKind.u64.wrap (t148 + 1)) a2 (⟨#[]⟩ : ByteArray)) else (laws_FnSemverReleaseAbove.j1 kj3 a1 true t146 t147 t148 t149 t150 t146 t147 (IntKind.u64.wrap (t148 + 1)) a2 (⟨#[]⟩ : ByteArray)))) = some r := H
              have A30 := Aside0.mk A300
              clear A300
              obtain ⟨y157, hy157⟩ : ∃ y_ : List (S28), y_ = (([(⟨t152, t153, t154, t155, t156⟩ : S28), (⟨t146, t147, IntKind.u64.wrap (t148 + 1), a2, (⟨#[]⟩ : ByteArray)⟩ : S28)] : List (S28))) := ⟨_, rfl⟩
              replace H : ((laws_svGood.f kj3 y157).bind fun t160 => (if t160 = true then (laws_FnSemverReleaseAbove.j1 kj3 a1 ((IntKind.u64.wrap (t148 + 1)) == 0) t146 t147 t148 t149 t150 t146 t147 (IntKind.u64.wrap (t148 + 1)) a2 (⟨#[]⟩ : ByteArray)) else (laws_FnSemverReleaseAbove.j1 kj3 a1 true t146 t147 t148 t149 t150 t146 t147 (IntKind.u64.wrap (t148 + 1)) a2 (⟨#[]⟩ : ByteArray)))) = some r := by first | (rw [hy157]; with_reducible exact H) | (have H2_ := (Option.bind_some _ _).symm.trans H; rw [hy157]; with_reducible exact H2_) | (have H2_ := (Option.bind_some _ _).symm.trans H; with_reducible exact H2_) | with_reducible exact H | (rw [hy157]; exact H) | exact H
              have Ny157 := Aside0.mk hy157
              clear hy157
              replace H := Option.bind_eq_some_iff.mp H
              obtain ⟨t160, A310, H⟩ := H
              replace H : (if t160 = true then (laws_FnSemverReleaseAbove.j1 kj3 a1 ((IntKind.u64.wrap (t148 + 1)) == 0) t146 t147 t148 t149 t150 t146 t147 (IntKind.u64.wrap (t148 + 1)) a2 (⟨#[]⟩ : ByteArray)) else (laws_FnSemverReleaseAbove.j1 kj3 a1 true t146 t147 t148 t149 t150 t146 t147 (IntKind.u64.wrap (t148 + 1)) a2 (⟨#[]⟩ : ByteArray))) = some r := H
              have A31 := Aside0.mk A310
              clear A310
              by_cases c32 : t160 = true
              · subst c32
                have H1 : (laws_FnSemverReleaseAbove.j1 kj3 a1 ((IntKind.u64.wrap (t148 + 1)) == 0) t146 t147 t148 t149 t150 t146 t147 (IntKind.u64.wrap (t148 + 1)) a2 (⟨#[]⟩ : ByteArray)) = some r := by rw [if_pos rfl] at H; exact H
                clear H
                have H := H1
                clear H1
                have H' := Aside0.mk H
                clear H
                try go_wp2
                have n0_ : Aside0 ((((((w21.setCell ⟨gb151, 0, none⟩ (.int .u64 t146)).setCell ⟨gb151, 1, none⟩ (.int .u64 t147)).setCell ⟨gb151, 2, none⟩ (.int .u64 (IntKind.u64.wrap (t148 + 1)))).setCell ⟨gb151, 3, none⟩ (.string a2)).setCell ⟨gb151, 4, none⟩ (.string (⟨#[]⟩ : ByteArray))).heap[gb144]? = some (.cells #[.int .u64 t146, .int .u64 t147, .int .u64 t148, .string t149, .string t150] 28 (0, 0))) := ⟨by (with_reducible repeat (first | refine blk_drewN ?_ _ | refine blk_drew ?_ | refine blk_alloc ?_ _)); refine blk_far ?_ NB144_151.out _; (with_reducible repeat (first | refine blk_drewN ?_ _ | refine blk_drew ?_ | refine blk_alloc ?_ _)); refine blk_far ?_ NB144_151.out _; (with_reducible repeat (first | refine blk_drewN ?_ _ | refine blk_drew ?_ | refine blk_alloc ?_ _)); refine blk_far ?_ NB144_151.out _; (with_reducible repeat (first | refine blk_drewN ?_ _ | refine blk_drew ?_ | refine blk_alloc ?_ _)); refine blk_far ?_ NB144_151.out _; (with_reducible repeat (first | refine blk_drewN ?_ _ | refine blk_drew ?_ | refine blk_alloc ?_ _)); refine blk_far ?_ NB144_151.out _; (with_reducible repeat (first | refine blk_drewN ?_ _ | refine blk_drew ?_ | refine blk_alloc ?_ _)); exact BK144.out⟩
                have n1_ : Aside0 ((((((w21.setCell ⟨gb151, 0, none⟩ (.int .u64 t146)).setCell ⟨gb151, 1, none⟩ (.int .u64 t147)).setCell ⟨gb151, 2, none⟩ (.int .u64 (IntKind.u64.wrap (t148 + 1)))).setCell ⟨gb151, 3, none⟩ (.string a2)).setCell ⟨gb151, 4, none⟩ (.string (⟨#[]⟩ : ByteArray))).heap[gb151]? = some (.cells #[.int .u64 t146, .int .u64 t147, .int .u64 (IntKind.u64.wrap (t148 + 1)), .string a2, .string (⟨#[]⟩ : ByteArray)] 28 (0, 0))) := ⟨by (with_reducible repeat (first | refine blk_drewN ?_ _ | refine blk_drew ?_ | refine blk_alloc ?_ _)); refine blk_put (cs := #[.int .u64 t146, .int .u64 t147, .int .u64 (IntKind.u64.wrap (t148 + 1)), .string a2, .string (⟨#[]⟩ : ByteArray)]) ?_ 4 _ rfl; (with_reducible repeat (first | refine blk_drewN ?_ _ | refine blk_drew ?_ | refine blk_alloc ?_ _)); refine blk_put (cs := #[.int .u64 t146, .int .u64 t147, .int .u64 (IntKind.u64.wrap (t148 + 1)), .string (⟨#[]⟩ : ByteArray), .string (⟨#[]⟩ : ByteArray)]) ?_ 3 _ rfl; (with_reducible repeat (first | refine blk_drewN ?_ _ | refine blk_drew ?_ | refine blk_alloc ?_ _)); refine blk_put (cs := #[.int .u64 t146, .int .u64 t147, .int .u64 0, .string (⟨#[]⟩ : ByteArray), .string (⟨#[]⟩ : ByteArray)]) ?_ 2 _ rfl; (with_reducible repeat (first | refine blk_drewN ?_ _ | refine blk_drew ?_ | refine blk_alloc ?_ _)); refine blk_put (cs := #[.int .u64 t146, .int .u64 0, .int .u64 0, .string (⟨#[]⟩ : ByteArray), .string (⟨#[]⟩ : ByteArray)]) ?_ 1 _ rfl; (with_reducible repeat (first | refine blk_drewN ?_ _ | refine blk_drew ?_ | refine blk_alloc ?_ _)); refine blk_put (cs := #[.int .u64 0, .int .u64 0, .int .u64 0, .string (⟨#[]⟩ : ByteArray), .string (⟨#[]⟩ : ByteArray)]) ?_ 0 _ rfl; (with_reducible repeat (first | refine blk_drewN ?_ _ | refine blk_drew ?_ | refine blk_alloc ?_ _)); exact BK151.out⟩
                have n2_ : Aside0 (Below w.heap.size w (((((w21.setCell ⟨gb151, 0, none⟩ (.int .u64 t146)).setCell ⟨gb151, 1, none⟩ (.int .u64 t147)).setCell ⟨gb151, 2, none⟩ (.int .u64 (IntKind.u64.wrap (t148 + 1)))).setCell ⟨gb151, 3, none⟩ (.string a2)).setCell ⟨gb151, 4, none⟩ (.string (⟨#[]⟩ : ByteArray)))) := ⟨by repeat (first | (with_reducible first | exact HB.out | apply below_alloc | apply pw_below_drewN | apply below_drew1 | refine below_set ?_ GE144.out | refine below_set ?_ GE151.out) | exact HB.out)⟩
                (try clear BK144)
                (try clear BK151)
                (try clear HB)
                generalize (((((w21.setCell ⟨gb151, 0, none⟩ (.int .u64 t146)).setCell ⟨gb151, 1, none⟩ (.int .u64 t147)).setCell ⟨gb151, 2, none⟩ (.int .u64 (IntKind.u64.wrap (t148 + 1)))).setCell ⟨gb151, 3, none⟩ (.string a2)).setCell ⟨gb151, 4, none⟩ (.string (⟨#[]⟩ : ByteArray))) = w33 at n0_ n1_ n2_ ⊢
                have BK144 := n0_
                have BK151 := n1_
                have HB := n2_
                clear n0_ n1_ n2_
                have n0_ := Aside0.mk (blk_drew BK144.out)
                have n1_ := Aside0.mk (blk_drew BK151.out)
                have n2_ := Aside0.mk (below_drew1 HB.out)
                clear BK144
                clear BK151
                clear HB
                have BK144 := n0_
                have BK151 := n1_
                have HB := n2_
                clear n0_ n1_ n2_
                refine start_ (n := 20) (S := fun w' => w'.cell? ⟨gb144, 0, none⟩ = some (.int .u64 t146) ∧ w'.cell? ⟨gb144, 1, none⟩ = some (.int .u64 t147) ∧ w'.cell? ⟨gb144, 2, none⟩ = some (.int .u64 t148) ∧ w'.cell? ⟨gb144, 3, none⟩ = some (.string t149) ∧ w'.cell? ⟨gb144, 4, none⟩ = some (.string t150) ∧ w'.cell? ⟨gb151, 0, none⟩ = some (.int .u64 t146) ∧ w'.cell? ⟨gb151, 1, none⟩ = some (.int .u64 t147) ∧ w'.cell? ⟨gb151, 2, none⟩ = some (.int .u64 (IntKind.u64.wrap (t148 + 1))) ∧ w'.cell? ⟨gb151, 3, none⟩ = some (.string a2) ∧ w'.cell? ⟨gb151, 4, none⟩ = some (.string (⟨#[]⟩ : ByteArray))) (ds := []) #[false, false, false, false, false, false, false, false, false, false, false, false, false, false, false, false, false, false, false, false] (by kernel_rfl) rfl rfl ⟨(blk_cell BK144.out 0).trans rfl, (blk_cell BK144.out 1).trans rfl, (blk_cell BK144.out 2).trans rfl, (blk_cell BK144.out 3).trans rfl, (blk_cell BK144.out 4).trans rfl, (blk_cell BK151.out 0).trans rfl, (blk_cell BK151.out 1).trans rfl, (blk_cell BK151.out 2).trans rfl, (blk_cell BK151.out 3).trans rfl, (blk_cell BK151.out 4).trans rfl⟩ (fun hHeld => ?_); refine with_tabW laws_FnSemverReleaseAbove.tab5 laws_FnSemverReleaseAbove.bits5 (fun HT_ HW_ => ?_)
                generalize w33.drew = w34 at BK144 BK151 HB hHeld ⊢
                refine pure_ (i := 0) (N := some 32) (v := ?_) (a' := ?_) #[true, false, false, false, false, false, false, false, false, false, false, false, false, false, false, false, false, false, false, false] rfl rfl (any_of HT_.out (by kernel_rfl)) (fun _ _ _ h => h) (Or.inl ⟨by rfl, ?_⟩) ?_ ?_
                rotate_left
                · intro w'
                  go_simp
                  with_reducible rfl
                rotate_left
                · simp only [Act.put, List.setIfInBounds_toArray, List.set_cons_zero, List.set_cons_succ, i64_w, i32_w]
                  rfl
                refine pure_ (i := 1) (N := some 33) (v := ?_) (a' := ?_) #[true, true, false, false, false, false, false, false, false, false, false, false, false, false, false, false, false, false, false, false] rfl rfl (any_of HT_.out (by kernel_rfl)) (fun _ _ _ h => h) (Or.inl ⟨by rfl, ?_⟩) ?_ ?_
                rotate_left
                · intro w'
                  go_simp
                  with_reducible rfl
                rotate_left
                · simp only [Act.put, List.setIfInBounds_toArray, List.set_cons_zero, List.set_cons_succ, i64_w, i32_w]
                  rfl
                refine pure_ (i := 2) (N := some 34) (v := ?_) (a' := ?_) #[true, true, true, false, false, false, false, false, false, false, false, false, false, false, false, false, false, false, false, false] rfl rfl (any_of HT_.out (by kernel_rfl)) (fun _ _ _ h => h) (Or.inl ⟨by rfl, ?_⟩) ?_ ?_
                rotate_left
                · intro w'
                  go_simp
                  with_reducible rfl
                rotate_left
                · simp only [Act.put, List.setIfInBounds_toArray, List.set_cons_zero, List.set_cons_succ, i64_w, i32_w]
                  rfl
                refine pure_ (i := 3) (N := some 35) (v := ?_) (a' := ?_) #[true, true, true, true, false, false, false, false, false, false, false, false, false, false, false, false, false, false, false, false] rfl rfl (any_of HT_.out (by kernel_rfl)) (fun _ _ _ h => h) (Or.inl ⟨by rfl, ?_⟩) ?_ ?_
                rotate_left
                · intro w'
                  go_simp
                  with_reducible rfl
                rotate_left
                · simp only [Act.put, List.setIfInBounds_toArray, List.set_cons_zero, List.set_cons_succ, i64_w, i32_w]
                  rfl
                refine pure_ (i := 4) (N := some 36) (v := ?_) (a' := ?_) #[true, true, true, true, true, false, false, false, false, false, false, false, false, false, false, false, false, false, false, false] rfl rfl (any_of HT_.out (by kernel_rfl)) (fun _ _ _ h => h) (Or.inl ⟨by rfl, ?_⟩) ?_ ?_
                rotate_left
                · intro w'
                  go_simp
                  with_reducible rfl
                rotate_left
                · simp only [Act.put, List.setIfInBounds_toArray, List.set_cons_zero, List.set_cons_succ, i64_w, i32_w]
                  rfl
                refine pure_ (i := 5) (N := some 37) (v := ?_) (a' := ?_) #[true, true, true, true, true, true, false, false, false, false, false, false, false, false, false, false, false, false, false, false] rfl rfl (any_of HT_.out (by kernel_rfl)) (fun _ _ _ h => h) (Or.inl ⟨by rfl, ?_⟩) ?_ ?_
                rotate_left
                · intro w'
                  go_simp
                  with_reducible rfl
                rotate_left
                · simp only [Act.put, List.setIfInBounds_toArray, List.set_cons_zero, List.set_cons_succ, i64_w, i32_w]
                  rfl
                refine pure_ (i := 6) (N := some 38) (v := ?_) (a' := ?_) #[true, true, true, true, true, true, true, false, false, false, false, false, false, false, false, false, false, false, false, false] rfl rfl (any_of HT_.out (by kernel_rfl)) (fun _ _ _ h => h) (Or.inl ⟨by rfl, ?_⟩) ?_ ?_
                rotate_left
                · intro w'
                  go_simp
                  with_reducible rfl
                rotate_left
                · simp only [Act.put, List.setIfInBounds_toArray, List.set_cons_zero, List.set_cons_succ, i64_w, i32_w]
                  rfl
                refine pure_ (i := 8) (N := some 40) (v := ?_) (a' := ?_) #[true, true, true, true, true, true, true, false, true, false, false, false, false, false, false, false, false, false, false, false] rfl rfl (any_of HT_.out (by kernel_rfl)) (fun _ _ _ h => h) (Or.inl ⟨by rfl, ?_⟩) ?_ ?_
                rotate_left
                · intro w'
                  go_simp
                  with_reducible rfl
                rotate_left
                · simp only [Act.put, List.setIfInBounds_toArray, List.set_cons_zero, List.set_cons_succ, i64_w, i32_w]
                  rfl
                refine take_ (i := 7) (N := some 39) (v := ?_) (a' := ?_) #[true, true, true, true, true, true, true, true, true, false, false, false, false, false, false, false, false, false, false, false] rfl rfl (take_ofW HT_.out HW_.out (by kernel_rfl)) (fun _ _ _ h => h) (Or.inl ⟨by rfl, ?_⟩) hHeld ?_ ?_
                rotate_left
                · rintro w' ⟨s0, s1, s2, s3, s4, s5, s6, s7, s8, s9⟩
                  go_simp
                  with_reducible rfl
                rotate_left
                · simp only [Act.put, List.setIfInBounds_toArray, List.set_cons_zero, List.set_cons_succ, i64_w, i32_w]
                  rfl
                refine take_ (i := 10) (N := some 42) (v := ?_) (a' := ?_) #[true, true, true, true, true, true, true, true, true, false, true, false, false, false, false, false, false, false, false, false] rfl rfl (take_ofW HT_.out HW_.out (by kernel_rfl)) (fun _ _ _ h => h) (Or.inl ⟨by rfl, ?_⟩) hHeld ?_ ?_
                rotate_left
                · rintro w' ⟨s0, s1, s2, s3, s4, s5, s6, s7, s8, s9⟩
                  go_simp
                  with_reducible rfl
                rotate_left
                · simp only [Act.put, List.setIfInBounds_toArray, List.set_cons_zero, List.set_cons_succ, i64_w, i32_w]
                  rfl
                refine one_ (i := 9) (N := some 41) #[true, true, true, true, true, true, true, true, true, true, true, false, false, false, false, false, false, false, false, false] rfl rfl (one_of HT_.out (by kernel_rfl)) (by decide) (fun K hK => ?_)
                refine goes_ Tryd.func23 (by kernel_rfl) rfl #[.agg #[.int .u64 t146, .int .u64 t147, .int .u64 t148, .string t149, .string t150], .string a1] (by rfl) rfl rfl (by (try simp only [List.map_toArray, List.map_cons, List.map_nil]); first | done | rfl | (simp only [List.length_drop, List.length_take]; rfl)) ?_
                with_reducible refine (laws_svPre.calls t146 t147 t148 t149 t150 a1 t152 t153 t154 t155 t156 _ A30.out).mono ?_
                rintro e w35 ⟨rfl, hb⟩
                refine ⟨_, rfl, ?_⟩
                have n0_ := Aside0.mk (blk_below (g := gb144) (o := .cells #[.int .u64 t146, .int .u64 t147, .int .u64 t148, .string t149, .string t150] 28 (0, 0)) (by (with_reducible repeat (first | refine blk_drewN ?_ _ | refine blk_drew ?_ | refine blk_alloc ?_ _)); exact BK144.out) hb)
                have n1_ := Aside0.mk (blk_below (g := gb151) (o := .cells #[.int .u64 t146, .int .u64 t147, .int .u64 (IntKind.u64.wrap (t148 + 1)), .string a2, .string (⟨#[]⟩ : ByteArray)] 28 (0, 0)) (by (with_reducible repeat (first | refine blk_drewN ?_ _ | refine blk_drew ?_ | refine blk_alloc ?_ _)); exact BK151.out) hb)
                have n2_ := Aside0.mk (below_step (by repeat (first | (with_reducible first | exact HB.out | apply below_alloc | apply pw_below_drewN | apply below_drew1 | refine below_set ?_ GE144.out | refine below_set ?_ GE151.out) | exact HB.out)) hb)
                clear BK144
                clear BK151
                clear HB
                have BK144 := n0_
                have BK151 := n1_
                have HB := n2_
                clear n0_ n1_ n2_
                (try clear hb)
                (try clear hb2)
                (try clear hk)
                (try clear hi)
                refine hK.out _ _ ⟨(blk_cell BK144.out 0).trans rfl, (blk_cell BK144.out 1).trans rfl, (blk_cell BK144.out 2).trans rfl, (blk_cell BK144.out 3).trans rfl, (blk_cell BK144.out 4).trans rfl, (blk_cell BK151.out 0).trans rfl, (blk_cell BK151.out 1).trans rfl, (blk_cell BK151.out 2).trans rfl, (blk_cell BK151.out 3).trans rfl, (blk_cell BK151.out 4).trans rfl⟩ (fun hHeld => ?_)
                clear hK K
                refine norm_ (a' := ?_) ?_ ?_
                rotate_left
                · show Act.put _ (some 41) _ = _
                  simp only [Act.put, List.setIfInBounds_toArray, List.set_cons_zero, List.set_cons_succ, i64_w, i32_w]
                  rfl
                refine one_ (i := 11) (N := some 43) #[true, true, true, true, true, true, true, true, true, true, true, true, false, false, false, false, false, false, false, false] rfl rfl (one_of HT_.out (by kernel_rfl)) (by decide) (fun K hK => ?_)
                refine Kd.R_lit_step k28 _ 28 ?hg (N := 43) ?hd (xs := ([(⟨t152, t153, t154, t155, t156⟩ : S28), (⟨t146, t147, IntKind.u64.wrap (t148 + 1), a2, (⟨#[]⟩ : ByteArray)⟩ : S28)] : List (S28))) (inner := [.int .u64 t152, .int .u64 t153, .int .u64 t154, .string t155, .string t156, .int .u64 t146, .int .u64 t147, .int .u64 (IntKind.u64.wrap (t148 + 1)), .string a2, .string (⟨#[]⟩ : ByteArray)]) (ok := fun _ => True) (okp := fun _ => True) ?hr ?hp (fun _ hk => hk) trivial (Below.refl _ _) (Nat.le_refl _) (by simp) ?_; (case hd => rfl); (case hg => rfl); (case hr => first | (go_simp; done) | (go_simp; rfl) | (go_simp; simp [u8w]; done)); (case hp => exact (Reps.c5 (show Kd.M k28 _ _ _ (⟨t152, t153, t154, t155, t156⟩ : S28) [.int .u64 t152, .int .u64 t153, .int .u64 t154, .string t155, .string t156] from (k28_mkM _ _ _ (⟨t152, t153, t154, t155, t156⟩ : S28) )) (Reps.c5 (show Kd.M k28 _ _ _ (⟨t146, t147, IntKind.u64.wrap (t148 + 1), a2, (⟨#[]⟩ : ByteArray)⟩ : S28) [.int .u64 t146, .int .u64 t147, .int .u64 (IntKind.u64.wrap (t148 + 1)), .string a2, .string (⟨#[]⟩ : ByteArray)] from (k28_mkM _ _ _ (⟨t146, t147, IntKind.u64.wrap (t148 + 1), a2, (⟨#[]⟩ : ByteArray)⟩ : S28) )) (Reps.none _ _))))
                intro v158 w36 ho37 hb hg_ hnew_
                clear hg_ hnew_
                (first | rw [← Ny157.out] at ho37 | (simp only [Int.reduceToNat] at ho37; rw [← Ny157.out] at ho37))
                have n0_ := Aside0.mk (Kd.R_lower (Kd.R_newB (Kd.R_newB ho37 (g := gb144) (o := .cells #[.int .u64 t146, .int .u64 t147, .int .u64 t148, .string t149, .string t150] 28 (0, 0)) (by (with_reducible repeat (first | refine blk_drewN ?_ _ | refine blk_drew ?_ | refine blk_alloc ?_ _)); exact BK144.out)) (g := gb151) (o := .cells #[.int .u64 t146, .int .u64 t147, .int .u64 (IntKind.u64.wrap (t148 + 1)), .string a2, .string (⟨#[]⟩ : ByteArray)] 28 (0, 0)) (by (with_reducible repeat (first | refine blk_drewN ?_ _ | refine blk_drew ?_ | refine blk_alloc ?_ _)); exact BK151.out)) (below_size (by repeat (first | (with_reducible first | exact HB.out | apply below_alloc | apply pw_below_drewN | apply below_drew1 | refine below_set ?_ GE144.out | refine below_set ?_ GE151.out) | exact HB.out))))
                have n1_ := Aside0.mk (blk_below (g := gb144) (o := .cells #[.int .u64 t146, .int .u64 t147, .int .u64 t148, .string t149, .string t150] 28 (0, 0)) (by (with_reducible repeat (first | refine blk_drewN ?_ _ | refine blk_drew ?_ | refine blk_alloc ?_ _)); exact BK144.out) hb)
                have n2_ := Aside0.mk (blk_below (g := gb151) (o := .cells #[.int .u64 t146, .int .u64 t147, .int .u64 (IntKind.u64.wrap (t148 + 1)), .string a2, .string (⟨#[]⟩ : ByteArray)] 28 (0, 0)) (by (with_reducible repeat (first | refine blk_drewN ?_ _ | refine blk_drew ?_ | refine blk_alloc ?_ _)); exact BK151.out) hb)
                have n3_ := Aside0.mk (below_step (by repeat (first | (with_reducible first | exact HB.out | apply below_alloc | apply pw_below_drewN | apply below_drew1 | refine below_set ?_ GE144.out | refine below_set ?_ GE151.out) | exact HB.out)) hb)
                clear BK144
                clear BK151
                clear HB
                have HO159 := n0_
                have BK144 := n1_
                have BK151 := n2_
                have HB := n3_
                clear n0_ n1_ n2_ n3_
                clear hb ho37
                obtain ⟨Ao38, co38, eo38⟩ := Kd.R_slice HO159.out
                (first | subst eo38 | (injection eo38 with f1_ f2_ f3_; have f4_ := f1_.symm; have f5_ := f3_.symm; clear f1_ f2_ f3_; subst f4_; subst f5_))
                refine hK.out _ _ ⟨(blk_cell BK144.out 0).trans rfl, (blk_cell BK144.out 1).trans rfl, (blk_cell BK144.out 2).trans rfl, (blk_cell BK144.out 3).trans rfl, (blk_cell BK144.out 4).trans rfl, (blk_cell BK151.out 0).trans rfl, (blk_cell BK151.out 1).trans rfl, (blk_cell BK151.out 2).trans rfl, (blk_cell BK151.out 3).trans rfl, (blk_cell BK151.out 4).trans rfl⟩ (fun hHeld => ?_)
                clear hK K
                refine norm_ (a' := ?_) ?_ ?_
                rotate_left
                · show Act.put _ (some 43) _ = _
                  simp only [Act.put, List.setIfInBounds_toArray, List.set_cons_zero, List.set_cons_succ, i64_w, i32_w]
                  rfl
                refine one_ (i := 12) (N := some 44) #[true, true, true, true, true, true, true, true, true, true, true, true, true, false, false, false, false, false, false, false] rfl rfl (one_of HT_.out (by kernel_rfl)) (by decide) (fun K hK => ?_)
                refine goes_ Tryd.func17 (by kernel_rfl) rfl #[.slice Ao38 y157.length co38] (by rfl) rfl rfl (by (try simp only [List.map_toArray, List.map_cons, List.map_nil]); first | done | rfl | (simp only [List.length_drop, List.length_take]; rfl)) ?_
                with_reducible refine (laws_svGood.calls kj3 _ _ y157 true _ ?side1 ?side2 A31.out).mono ?_
                (case side1 => repeat (first | exact (Kd.R_reads' HO159.out).2.2 | (with_reducible refine Kd.C_alloc ?_ _) | (with_reducible refine Kd.C_drewN ?_ _) | (with_reducible refine Kd.C_drew ?_)))
                (case side2 => exact (Kd.R_reads' HO159.out).2.1)
                rintro e w39 ⟨rfl, hb⟩
                refine ⟨_, rfl, ?_⟩
                have n0_ := Aside0.mk (Kd.R_below (by (with_reducible repeat (first | apply Kd.R_alloc | apply Kd.R_drewN | apply Kd.R_drew)); exact HO159.out) hb)
                have n1_ := Aside0.mk (blk_below (g := gb144) (o := .cells #[.int .u64 t146, .int .u64 t147, .int .u64 t148, .string t149, .string t150] 28 (0, 0)) (by (with_reducible repeat (first | refine blk_drewN ?_ _ | refine blk_drew ?_ | refine blk_alloc ?_ _)); exact BK144.out) hb)
                have n2_ := Aside0.mk (blk_below (g := gb151) (o := .cells #[.int .u64 t146, .int .u64 t147, .int .u64 (IntKind.u64.wrap (t148 + 1)), .string a2, .string (⟨#[]⟩ : ByteArray)] 28 (0, 0)) (by (with_reducible repeat (first | refine blk_drewN ?_ _ | refine blk_drew ?_ | refine blk_alloc ?_ _)); exact BK151.out) hb)
                have n3_ := Aside0.mk (below_step (by repeat (first | (with_reducible first | exact HB.out | apply below_alloc | apply pw_below_drewN | apply below_drew1 | refine below_set ?_ GE144.out | refine below_set ?_ GE151.out) | exact HB.out)) hb)
                clear HO159
                clear BK144
                clear BK151
                clear HB
                have HO159 := n0_
                have BK144 := n1_
                have BK151 := n2_
                have HB := n3_
                clear n0_ n1_ n2_ n3_
                (try clear hb)
                (try clear hb2)
                (try clear hk)
                (try clear hi)
                refine hK.out _ _ ⟨(blk_cell BK144.out 0).trans rfl, (blk_cell BK144.out 1).trans rfl, (blk_cell BK144.out 2).trans rfl, (blk_cell BK144.out 3).trans rfl, (blk_cell BK144.out 4).trans rfl, (blk_cell BK151.out 0).trans rfl, (blk_cell BK151.out 1).trans rfl, (blk_cell BK151.out 2).trans rfl, (blk_cell BK151.out 3).trans rfl, (blk_cell BK151.out 4).trans rfl⟩ (fun hHeld => ?_)
                clear hK K
                refine norm_ (a' := ?_) ?_ ?_
                rotate_left
                · show Act.put _ (some 44) _ = _
                  simp only [Act.put, List.setIfInBounds_toArray, List.set_cons_zero, List.set_cons_succ, i64_w, i32_w]
                  rfl
                refine pure_ (i := 13) (N := some 45) (v := ?_) (a' := ?_) #[true, true, true, true, true, true, true, true, true, true, true, true, true, true, false, false, false, false, false, false] rfl rfl (any_of HT_.out (by kernel_rfl)) (fun _ _ _ h => h) (Or.inl ⟨by rfl, ?_⟩) ?_ ?_
                rotate_left
                · intro w'
                  go_simp
                  with_reducible rfl
                rotate_left
                · simp only [Act.put, List.setIfInBounds_toArray, List.set_cons_zero, List.set_cons_succ, i64_w, i32_w]
                  rfl
                refine pure_ (i := 14) (N := some 46) (v := ?_) (a' := ?_) #[true, true, true, true, true, true, true, true, true, true, true, true, true, true, true, false, false, false, false, false] rfl rfl (any_of HT_.out (by kernel_rfl)) (fun _ _ _ h => h) (Or.inl ⟨by rfl, ?_⟩) ?_ ?_
                rotate_left
                · intro w'
                  go_simp
                  with_reducible rfl
                rotate_left
                · simp only [Act.put, List.setIfInBounds_toArray, List.set_cons_zero, List.set_cons_succ, i64_w, i32_w]
                  rfl
                refine pure_ (i := 15) (N := some 47) (v := ?_) (a' := ?_) #[true, true, true, true, true, true, true, true, true, true, true, true, true, true, true, true, false, false, false, false] rfl rfl (any_of HT_.out (by kernel_rfl)) (fun _ _ _ h => h) (Or.inl ⟨by rfl, ?_⟩) ?_ ?_
                rotate_left
                · intro w'
                  go_simp
                  with_reducible rfl
                rotate_left
                · simp only [Act.put, List.setIfInBounds_toArray, List.set_cons_zero, List.set_cons_succ, i64_w, i32_w]
                  rfl
                refine pure_ (i := 16) (N := some 48) (v := ?_) (a' := ?_) #[true, true, true, true, true, true, true, true, true, true, true, true, true, true, true, true, true, false, false, false] rfl rfl (any_of HT_.out (by kernel_rfl)) (fun _ _ _ h => h) (Or.inl ⟨by rfl, ?_⟩) ?_ ?_
                rotate_left
                · intro w'
                  go_simp
                  with_reducible rfl
                rotate_left
                · simp only [Act.put, List.setIfInBounds_toArray, List.set_cons_zero, List.set_cons_succ, i64_w, i32_w]
                  rfl
                refine take_ (i := 17) (N := some 49) (v := ?_) (a' := ?_) #[true, true, true, true, true, true, true, true, true, true, true, true, true, true, true, true, true, true, false, false] rfl rfl (take_ofW HT_.out HW_.out (by kernel_rfl)) (fun _ _ _ h => h) (Or.inl ⟨by rfl, ?_⟩) hHeld ?_ ?_
                rotate_left
                · rintro w' ⟨s0, s1, s2, s3, s4, s5, s6, s7, s8, s9⟩
                  go_simp
                  with_reducible rfl
                rotate_left
                · simp only [Act.put, List.setIfInBounds_toArray, List.set_cons_zero, List.set_cons_succ, i64_w, i32_w]
                  rfl
                refine pure_ (i := 18) (N := some 50) (v := ?_) (a' := ?_) #[true, true, true, true, true, true, true, true, true, true, true, true, true, true, true, true, true, true, true, false] rfl rfl (any_of HT_.out (by kernel_rfl)) (fun _ _ _ h => h) (Or.inl ⟨by rfl, ?_⟩) ?_ ?_
                rotate_left
                · intro w'
                  go_simp
                  with_reducible rfl
                rotate_left
                · simp only [Act.put, List.setIfInBounds_toArray, List.set_cons_zero, List.set_cons_succ, i64_w, i32_w]
                  rfl
                refine pure_ (i := 19) (N := some 51) (v := ?_) (a' := ?_) #[true, true, true, true, true, true, true, true, true, true, true, true, true, true, true, true, true, true, true, true] rfl rfl (any_of HT_.out (by kernel_rfl)) (fun _ _ _ h => h) (Or.inl ⟨by rfl, ?_⟩) ?_ ?_
                rotate_left
                · intro w'
                  go_simp
                  with_reducible rfl
                rotate_left
                · simp only [Act.put, List.setIfInBounds_toArray, List.set_cons_zero, List.set_cons_succ, i64_w, i32_w]
                  rfl
                refine done_ (done_of HT_.out (by kernel_rfl)) ?_
                try go_wp2
                go_meet
                case rel => exact ⟨_, (((IntKind.u64.wrap (t148 + 1)) == 0)), (by first | rfl | (simp; done) | (simp [*]; done)), H', ⟨by have := HJ3.out; first | omega | exact Nat.le_refl _⟩, ⟨by (with_reducible repeat (first | refine blk_drewN ?_ _ | refine blk_drew ?_ | refine blk_alloc ?_ _)); exact BK144.out⟩, ⟨by (with_reducible repeat (first | refine blk_drewN ?_ _ | refine blk_drew ?_ | refine blk_alloc ?_ _)); exact BK151.out⟩, ⟨by repeat (first | (with_reducible first | exact HB.out | apply below_alloc | apply pw_below_drewN | apply below_drew1 | refine below_set ?_ GE144.out | refine below_set ?_ GE151.out) | exact HB.out)⟩⟩
              · replace c32 := Bool.eq_false_iff.mpr c32
                subst c32
                have H1 : (laws_FnSemverReleaseAbove.j1 kj3 a1 true t146 t147 t148 t149 t150 t146 t147 (IntKind.u64.wrap (t148 + 1)) a2 (⟨#[]⟩ : ByteArray)) = some r := by rw [if_neg (show ¬ (false = true) by decide)] at H; exact H
                clear H
                have H := H1
                clear H1
                have H' := Aside0.mk H
                clear H
                try go_wp2
                have n0_ : Aside0 ((((((w21.setCell ⟨gb151, 0, none⟩ (.int .u64 t146)).setCell ⟨gb151, 1, none⟩ (.int .u64 t147)).setCell ⟨gb151, 2, none⟩ (.int .u64 (IntKind.u64.wrap (t148 + 1)))).setCell ⟨gb151, 3, none⟩ (.string a2)).setCell ⟨gb151, 4, none⟩ (.string (⟨#[]⟩ : ByteArray))).heap[gb144]? = some (.cells #[.int .u64 t146, .int .u64 t147, .int .u64 t148, .string t149, .string t150] 28 (0, 0))) := ⟨by (with_reducible repeat (first | refine blk_drewN ?_ _ | refine blk_drew ?_ | refine blk_alloc ?_ _)); refine blk_far ?_ NB144_151.out _; (with_reducible repeat (first | refine blk_drewN ?_ _ | refine blk_drew ?_ | refine blk_alloc ?_ _)); refine blk_far ?_ NB144_151.out _; (with_reducible repeat (first | refine blk_drewN ?_ _ | refine blk_drew ?_ | refine blk_alloc ?_ _)); refine blk_far ?_ NB144_151.out _; (with_reducible repeat (first | refine blk_drewN ?_ _ | refine blk_drew ?_ | refine blk_alloc ?_ _)); refine blk_far ?_ NB144_151.out _; (with_reducible repeat (first | refine blk_drewN ?_ _ | refine blk_drew ?_ | refine blk_alloc ?_ _)); refine blk_far ?_ NB144_151.out _; (with_reducible repeat (first | refine blk_drewN ?_ _ | refine blk_drew ?_ | refine blk_alloc ?_ _)); exact BK144.out⟩
                have n1_ : Aside0 ((((((w21.setCell ⟨gb151, 0, none⟩ (.int .u64 t146)).setCell ⟨gb151, 1, none⟩ (.int .u64 t147)).setCell ⟨gb151, 2, none⟩ (.int .u64 (IntKind.u64.wrap (t148 + 1)))).setCell ⟨gb151, 3, none⟩ (.string a2)).setCell ⟨gb151, 4, none⟩ (.string (⟨#[]⟩ : ByteArray))).heap[gb151]? = some (.cells #[.int .u64 t146, .int .u64 t147, .int .u64 (IntKind.u64.wrap (t148 + 1)), .string a2, .string (⟨#[]⟩ : ByteArray)] 28 (0, 0))) := ⟨by (with_reducible repeat (first | refine blk_drewN ?_ _ | refine blk_drew ?_ | refine blk_alloc ?_ _)); refine blk_put (cs := #[.int .u64 t146, .int .u64 t147, .int .u64 (IntKind.u64.wrap (t148 + 1)), .string a2, .string (⟨#[]⟩ : ByteArray)]) ?_ 4 _ rfl; (with_reducible repeat (first | refine blk_drewN ?_ _ | refine blk_drew ?_ | refine blk_alloc ?_ _)); refine blk_put (cs := #[.int .u64 t146, .int .u64 t147, .int .u64 (IntKind.u64.wrap (t148 + 1)), .string (⟨#[]⟩ : ByteArray), .string (⟨#[]⟩ : ByteArray)]) ?_ 3 _ rfl; (with_reducible repeat (first | refine blk_drewN ?_ _ | refine blk_drew ?_ | refine blk_alloc ?_ _)); refine blk_put (cs := #[.int .u64 t146, .int .u64 t147, .int .u64 0, .string (⟨#[]⟩ : ByteArray), .string (⟨#[]⟩ : ByteArray)]) ?_ 2 _ rfl; (with_reducible repeat (first | refine blk_drewN ?_ _ | refine blk_drew ?_ | refine blk_alloc ?_ _)); refine blk_put (cs := #[.int .u64 t146, .int .u64 0, .int .u64 0, .string (⟨#[]⟩ : ByteArray), .string (⟨#[]⟩ : ByteArray)]) ?_ 1 _ rfl; (with_reducible repeat (first | refine blk_drewN ?_ _ | refine blk_drew ?_ | refine blk_alloc ?_ _)); refine blk_put (cs := #[.int .u64 0, .int .u64 0, .int .u64 0, .string (⟨#[]⟩ : ByteArray), .string (⟨#[]⟩ : ByteArray)]) ?_ 0 _ rfl; (with_reducible repeat (first | refine blk_drewN ?_ _ | refine blk_drew ?_ | refine blk_alloc ?_ _)); exact BK151.out⟩
                have n2_ : Aside0 (Below w.heap.size w (((((w21.setCell ⟨gb151, 0, none⟩ (.int .u64 t146)).setCell ⟨gb151, 1, none⟩ (.int .u64 t147)).setCell ⟨gb151, 2, none⟩ (.int .u64 (IntKind.u64.wrap (t148 + 1)))).setCell ⟨gb151, 3, none⟩ (.string a2)).setCell ⟨gb151, 4, none⟩ (.string (⟨#[]⟩ : ByteArray)))) := ⟨by repeat (first | (with_reducible first | exact HB.out | apply below_alloc | apply pw_below_drewN | apply below_drew1 | refine below_set ?_ GE144.out | refine below_set ?_ GE151.out) | exact HB.out)⟩
                (try clear BK144)
                (try clear BK151)
                (try clear HB)
                generalize (((((w21.setCell ⟨gb151, 0, none⟩ (.int .u64 t146)).setCell ⟨gb151, 1, none⟩ (.int .u64 t147)).setCell ⟨gb151, 2, none⟩ (.int .u64 (IntKind.u64.wrap (t148 + 1)))).setCell ⟨gb151, 3, none⟩ (.string a2)).setCell ⟨gb151, 4, none⟩ (.string (⟨#[]⟩ : ByteArray))) = w40 at n0_ n1_ n2_ ⊢
                have BK144 := n0_
                have BK151 := n1_
                have HB := n2_
                clear n0_ n1_ n2_
                have n0_ := Aside0.mk (blk_drew BK144.out)
                have n1_ := Aside0.mk (blk_drew BK151.out)
                have n2_ := Aside0.mk (below_drew1 HB.out)
                clear BK144
                clear BK151
                clear HB
                have BK144 := n0_
                have BK151 := n1_
                have HB := n2_
                clear n0_ n1_ n2_
                refine start_ (n := 20) (S := fun w' => w'.cell? ⟨gb144, 0, none⟩ = some (.int .u64 t146) ∧ w'.cell? ⟨gb144, 1, none⟩ = some (.int .u64 t147) ∧ w'.cell? ⟨gb144, 2, none⟩ = some (.int .u64 t148) ∧ w'.cell? ⟨gb144, 3, none⟩ = some (.string t149) ∧ w'.cell? ⟨gb144, 4, none⟩ = some (.string t150) ∧ w'.cell? ⟨gb151, 0, none⟩ = some (.int .u64 t146) ∧ w'.cell? ⟨gb151, 1, none⟩ = some (.int .u64 t147) ∧ w'.cell? ⟨gb151, 2, none⟩ = some (.int .u64 (IntKind.u64.wrap (t148 + 1))) ∧ w'.cell? ⟨gb151, 3, none⟩ = some (.string a2) ∧ w'.cell? ⟨gb151, 4, none⟩ = some (.string (⟨#[]⟩ : ByteArray))) (ds := []) #[false, false, false, false, false, false, false, false, false, false, false, false, false, false, false, false, false, false, false, false] (by kernel_rfl) rfl rfl ⟨(blk_cell BK144.out 0).trans rfl, (blk_cell BK144.out 1).trans rfl, (blk_cell BK144.out 2).trans rfl, (blk_cell BK144.out 3).trans rfl, (blk_cell BK144.out 4).trans rfl, (blk_cell BK151.out 0).trans rfl, (blk_cell BK151.out 1).trans rfl, (blk_cell BK151.out 2).trans rfl, (blk_cell BK151.out 3).trans rfl, (blk_cell BK151.out 4).trans rfl⟩ (fun hHeld => ?_); refine with_tabW laws_FnSemverReleaseAbove.tab5 laws_FnSemverReleaseAbove.bits5 (fun HT_ HW_ => ?_)
                generalize w40.drew = w41 at BK144 BK151 HB hHeld ⊢
                refine pure_ (i := 0) (N := some 32) (v := ?_) (a' := ?_) #[true, false, false, false, false, false, false, false, false, false, false, false, false, false, false, false, false, false, false, false] rfl rfl (any_of HT_.out (by kernel_rfl)) (fun _ _ _ h => h) (Or.inl ⟨by rfl, ?_⟩) ?_ ?_
                rotate_left
                · intro w'
                  go_simp
                  with_reducible rfl
                rotate_left
                · simp only [Act.put, List.setIfInBounds_toArray, List.set_cons_zero, List.set_cons_succ, i64_w, i32_w]
                  rfl
                refine pure_ (i := 1) (N := some 33) (v := ?_) (a' := ?_) #[true, true, false, false, false, false, false, false, false, false, false, false, false, false, false, false, false, false, false, false] rfl rfl (any_of HT_.out (by kernel_rfl)) (fun _ _ _ h => h) (Or.inl ⟨by rfl, ?_⟩) ?_ ?_
                rotate_left
                · intro w'
                  go_simp
                  with_reducible rfl
                rotate_left
                · simp only [Act.put, List.setIfInBounds_toArray, List.set_cons_zero, List.set_cons_succ, i64_w, i32_w]
                  rfl
                refine pure_ (i := 2) (N := some 34) (v := ?_) (a' := ?_) #[true, true, true, false, false, false, false, false, false, false, false, false, false, false, false, false, false, false, false, false] rfl rfl (any_of HT_.out (by kernel_rfl)) (fun _ _ _ h => h) (Or.inl ⟨by rfl, ?_⟩) ?_ ?_
                rotate_left
                · intro w'
                  go_simp
                  with_reducible rfl
                rotate_left
                · simp only [Act.put, List.setIfInBounds_toArray, List.set_cons_zero, List.set_cons_succ, i64_w, i32_w]
                  rfl
                refine pure_ (i := 3) (N := some 35) (v := ?_) (a' := ?_) #[true, true, true, true, false, false, false, false, false, false, false, false, false, false, false, false, false, false, false, false] rfl rfl (any_of HT_.out (by kernel_rfl)) (fun _ _ _ h => h) (Or.inl ⟨by rfl, ?_⟩) ?_ ?_
                rotate_left
                · intro w'
                  go_simp
                  with_reducible rfl
                rotate_left
                · simp only [Act.put, List.setIfInBounds_toArray, List.set_cons_zero, List.set_cons_succ, i64_w, i32_w]
                  rfl
                refine pure_ (i := 4) (N := some 36) (v := ?_) (a' := ?_) #[true, true, true, true, true, false, false, false, false, false, false, false, false, false, false, false, false, false, false, false] rfl rfl (any_of HT_.out (by kernel_rfl)) (fun _ _ _ h => h) (Or.inl ⟨by rfl, ?_⟩) ?_ ?_
                rotate_left
                · intro w'
                  go_simp
                  with_reducible rfl
                rotate_left
                · simp only [Act.put, List.setIfInBounds_toArray, List.set_cons_zero, List.set_cons_succ, i64_w, i32_w]
                  rfl
                refine pure_ (i := 5) (N := some 37) (v := ?_) (a' := ?_) #[true, true, true, true, true, true, false, false, false, false, false, false, false, false, false, false, false, false, false, false] rfl rfl (any_of HT_.out (by kernel_rfl)) (fun _ _ _ h => h) (Or.inl ⟨by rfl, ?_⟩) ?_ ?_
                rotate_left
                · intro w'
                  go_simp
                  with_reducible rfl
                rotate_left
                · simp only [Act.put, List.setIfInBounds_toArray, List.set_cons_zero, List.set_cons_succ, i64_w, i32_w]
                  rfl
                refine pure_ (i := 6) (N := some 38) (v := ?_) (a' := ?_) #[true, true, true, true, true, true, true, false, false, false, false, false, false, false, false, false, false, false, false, false] rfl rfl (any_of HT_.out (by kernel_rfl)) (fun _ _ _ h => h) (Or.inl ⟨by rfl, ?_⟩) ?_ ?_
                rotate_left
                · intro w'
                  go_simp
                  with_reducible rfl
                rotate_left
                · simp only [Act.put, List.setIfInBounds_toArray, List.set_cons_zero, List.set_cons_succ, i64_w, i32_w]
                  rfl
                refine pure_ (i := 8) (N := some 40) (v := ?_) (a' := ?_) #[true, true, true, true, true, true, true, false, true, false, false, false, false, false, false, false, false, false, false, false] rfl rfl (any_of HT_.out (by kernel_rfl)) (fun _ _ _ h => h) (Or.inl ⟨by rfl, ?_⟩) ?_ ?_
                rotate_left
                · intro w'
                  go_simp
                  with_reducible rfl
                rotate_left
                · simp only [Act.put, List.setIfInBounds_toArray, List.set_cons_zero, List.set_cons_succ, i64_w, i32_w]
                  rfl
                refine take_ (i := 7) (N := some 39) (v := ?_) (a' := ?_) #[true, true, true, true, true, true, true, true, true, false, false, false, false, false, false, false, false, false, false, false] rfl rfl (take_ofW HT_.out HW_.out (by kernel_rfl)) (fun _ _ _ h => h) (Or.inl ⟨by rfl, ?_⟩) hHeld ?_ ?_
                rotate_left
                · rintro w' ⟨s0, s1, s2, s3, s4, s5, s6, s7, s8, s9⟩
                  go_simp
                  with_reducible rfl
                rotate_left
                · simp only [Act.put, List.setIfInBounds_toArray, List.set_cons_zero, List.set_cons_succ, i64_w, i32_w]
                  rfl
                refine take_ (i := 10) (N := some 42) (v := ?_) (a' := ?_) #[true, true, true, true, true, true, true, true, true, false, true, false, false, false, false, false, false, false, false, false] rfl rfl (take_ofW HT_.out HW_.out (by kernel_rfl)) (fun _ _ _ h => h) (Or.inl ⟨by rfl, ?_⟩) hHeld ?_ ?_
                rotate_left
                · rintro w' ⟨s0, s1, s2, s3, s4, s5, s6, s7, s8, s9⟩
                  go_simp
                  with_reducible rfl
                rotate_left
                · simp only [Act.put, List.setIfInBounds_toArray, List.set_cons_zero, List.set_cons_succ, i64_w, i32_w]
                  rfl
                refine one_ (i := 9) (N := some 41) #[true, true, true, true, true, true, true, true, true, true, true, false, false, false, false, false, false, false, false, false] rfl rfl (one_of HT_.out (by kernel_rfl)) (by decide) (fun K hK => ?_)
                refine goes_ Tryd.func23 (by kernel_rfl) rfl #[.agg #[.int .u64 t146, .int .u64 t147, .int .u64 t148, .string t149, .string t150], .string a1] (by rfl) rfl rfl (by (try simp only [List.map_toArray, List.map_cons, List.map_nil]); first | done | rfl | (simp only [List.length_drop, List.length_take]; rfl)) ?_
                with_reducible refine (laws_svPre.calls t146 t147 t148 t149 t150 a1 t152 t153 t154 t155 t156 _ A30.out).mono ?_
                rintro e w42 ⟨rfl, hb⟩
                refine ⟨_, rfl, ?_⟩
                have n0_ := Aside0.mk (blk_below (g := gb144) (o := .cells #[.int .u64 t146, .int .u64 t147, .int .u64 t148, .string t149, .string t150] 28 (0, 0)) (by (with_reducible repeat (first | refine blk_drewN ?_ _ | refine blk_drew ?_ | refine blk_alloc ?_ _)); exact BK144.out) hb)
                have n1_ := Aside0.mk (blk_below (g := gb151) (o := .cells #[.int .u64 t146, .int .u64 t147, .int .u64 (IntKind.u64.wrap (t148 + 1)), .string a2, .string (⟨#[]⟩ : ByteArray)] 28 (0, 0)) (by (with_reducible repeat (first | refine blk_drewN ?_ _ | refine blk_drew ?_ | refine blk_alloc ?_ _)); exact BK151.out) hb)
                have n2_ := Aside0.mk (below_step (by repeat (first | (with_reducible first | exact HB.out | apply below_alloc | apply pw_below_drewN | apply below_drew1 | refine below_set ?_ GE144.out | refine below_set ?_ GE151.out) | exact HB.out)) hb)
                clear BK144
                clear BK151
                clear HB
                have BK144 := n0_
                have BK151 := n1_
                have HB := n2_
                clear n0_ n1_ n2_
                (try clear hb)
                (try clear hb2)
                (try clear hk)
                (try clear hi)
                refine hK.out _ _ ⟨(blk_cell BK144.out 0).trans rfl, (blk_cell BK144.out 1).trans rfl, (blk_cell BK144.out 2).trans rfl, (blk_cell BK144.out 3).trans rfl, (blk_cell BK144.out 4).trans rfl, (blk_cell BK151.out 0).trans rfl, (blk_cell BK151.out 1).trans rfl, (blk_cell BK151.out 2).trans rfl, (blk_cell BK151.out 3).trans rfl, (blk_cell BK151.out 4).trans rfl⟩ (fun hHeld => ?_)
                clear hK K
                refine norm_ (a' := ?_) ?_ ?_
                rotate_left
                · show Act.put _ (some 41) _ = _
                  simp only [Act.put, List.setIfInBounds_toArray, List.set_cons_zero, List.set_cons_succ, i64_w, i32_w]
                  rfl
                refine one_ (i := 11) (N := some 43) #[true, true, true, true, true, true, true, true, true, true, true, true, false, false, false, false, false, false, false, false] rfl rfl (one_of HT_.out (by kernel_rfl)) (by decide) (fun K hK => ?_)
                refine Kd.R_lit_step k28 _ 28 ?hg (N := 43) ?hd (xs := ([(⟨t152, t153, t154, t155, t156⟩ : S28), (⟨t146, t147, IntKind.u64.wrap (t148 + 1), a2, (⟨#[]⟩ : ByteArray)⟩ : S28)] : List (S28))) (inner := [.int .u64 t152, .int .u64 t153, .int .u64 t154, .string t155, .string t156, .int .u64 t146, .int .u64 t147, .int .u64 (IntKind.u64.wrap (t148 + 1)), .string a2, .string (⟨#[]⟩ : ByteArray)]) (ok := fun _ => True) (okp := fun _ => True) ?hr ?hp (fun _ hk => hk) trivial (Below.refl _ _) (Nat.le_refl _) (by simp) ?_; (case hd => rfl); (case hg => rfl); (case hr => first | (go_simp; done) | (go_simp; rfl) | (go_simp; simp [u8w]; done)); (case hp => exact (Reps.c5 (show Kd.M k28 _ _ _ (⟨t152, t153, t154, t155, t156⟩ : S28) [.int .u64 t152, .int .u64 t153, .int .u64 t154, .string t155, .string t156] from (k28_mkM _ _ _ (⟨t152, t153, t154, t155, t156⟩ : S28) )) (Reps.c5 (show Kd.M k28 _ _ _ (⟨t146, t147, IntKind.u64.wrap (t148 + 1), a2, (⟨#[]⟩ : ByteArray)⟩ : S28) [.int .u64 t146, .int .u64 t147, .int .u64 (IntKind.u64.wrap (t148 + 1)), .string a2, .string (⟨#[]⟩ : ByteArray)] from (k28_mkM _ _ _ (⟨t146, t147, IntKind.u64.wrap (t148 + 1), a2, (⟨#[]⟩ : ByteArray)⟩ : S28) )) (Reps.none _ _))))
                intro v158 w43 ho44 hb hg_ hnew_
                clear hg_ hnew_
                (first | rw [← Ny157.out] at ho44 | (simp only [Int.reduceToNat] at ho44; rw [← Ny157.out] at ho44))
                have n0_ := Aside0.mk (Kd.R_lower (Kd.R_newB (Kd.R_newB ho44 (g := gb144) (o := .cells #[.int .u64 t146, .int .u64 t147, .int .u64 t148, .string t149, .string t150] 28 (0, 0)) (by (with_reducible repeat (first | refine blk_drewN ?_ _ | refine blk_drew ?_ | refine blk_alloc ?_ _)); exact BK144.out)) (g := gb151) (o := .cells #[.int .u64 t146, .int .u64 t147, .int .u64 (IntKind.u64.wrap (t148 + 1)), .string a2, .string (⟨#[]⟩ : ByteArray)] 28 (0, 0)) (by (with_reducible repeat (first | refine blk_drewN ?_ _ | refine blk_drew ?_ | refine blk_alloc ?_ _)); exact BK151.out)) (below_size (by repeat (first | (with_reducible first | exact HB.out | apply below_alloc | apply pw_below_drewN | apply below_drew1 | refine below_set ?_ GE144.out | refine below_set ?_ GE151.out) | exact HB.out))))
                have n1_ := Aside0.mk (blk_below (g := gb144) (o := .cells #[.int .u64 t146, .int .u64 t147, .int .u64 t148, .string t149, .string t150] 28 (0, 0)) (by (with_reducible repeat (first | refine blk_drewN ?_ _ | refine blk_drew ?_ | refine blk_alloc ?_ _)); exact BK144.out) hb)
                have n2_ := Aside0.mk (blk_below (g := gb151) (o := .cells #[.int .u64 t146, .int .u64 t147, .int .u64 (IntKind.u64.wrap (t148 + 1)), .string a2, .string (⟨#[]⟩ : ByteArray)] 28 (0, 0)) (by (with_reducible repeat (first | refine blk_drewN ?_ _ | refine blk_drew ?_ | refine blk_alloc ?_ _)); exact BK151.out) hb)
                have n3_ := Aside0.mk (below_step (by repeat (first | (with_reducible first | exact HB.out | apply below_alloc | apply pw_below_drewN | apply below_drew1 | refine below_set ?_ GE144.out | refine below_set ?_ GE151.out) | exact HB.out)) hb)
                clear BK144
                clear BK151
                clear HB
                have HO159 := n0_
                have BK144 := n1_
                have BK151 := n2_
                have HB := n3_
                clear n0_ n1_ n2_ n3_
                clear hb ho44
                obtain ⟨Ao45, co45, eo45⟩ := Kd.R_slice HO159.out
                (first | subst eo45 | (injection eo45 with f1_ f2_ f3_; have f4_ := f1_.symm; have f5_ := f3_.symm; clear f1_ f2_ f3_; subst f4_; subst f5_))
                refine hK.out _ _ ⟨(blk_cell BK144.out 0).trans rfl, (blk_cell BK144.out 1).trans rfl, (blk_cell BK144.out 2).trans rfl, (blk_cell BK144.out 3).trans rfl, (blk_cell BK144.out 4).trans rfl, (blk_cell BK151.out 0).trans rfl, (blk_cell BK151.out 1).trans rfl, (blk_cell BK151.out 2).trans rfl, (blk_cell BK151.out 3).trans rfl, (blk_cell BK151.out 4).trans rfl⟩ (fun hHeld => ?_)
                clear hK K
                refine norm_ (a' := ?_) ?_ ?_
                rotate_left
                · show Act.put _ (some 43) _ = _
                  simp only [Act.put, List.setIfInBounds_toArray, List.set_cons_zero, List.set_cons_succ, i64_w, i32_w]
                  rfl
                refine one_ (i := 12) (N := some 44) #[true, true, true, true, true, true, true, true, true, true, true, true, true, false, false, false, false, false, false, false] rfl rfl (one_of HT_.out (by kernel_rfl)) (by decide) (fun K hK => ?_)
                refine goes_ Tryd.func17 (by kernel_rfl) rfl #[.slice Ao45 y157.length co45] (by rfl) rfl rfl (by (try simp only [List.map_toArray, List.map_cons, List.map_nil]); first | done | rfl | (simp only [List.length_drop, List.length_take]; rfl)) ?_
                with_reducible refine (laws_svGood.calls kj3 _ _ y157 false _ ?side1 ?side2 A31.out).mono ?_
                (case side1 => repeat (first | exact (Kd.R_reads' HO159.out).2.2 | (with_reducible refine Kd.C_alloc ?_ _) | (with_reducible refine Kd.C_drewN ?_ _) | (with_reducible refine Kd.C_drew ?_)))
                (case side2 => exact (Kd.R_reads' HO159.out).2.1)
                rintro e w46 ⟨rfl, hb⟩
                refine ⟨_, rfl, ?_⟩
                have n0_ := Aside0.mk (Kd.R_below (by (with_reducible repeat (first | apply Kd.R_alloc | apply Kd.R_drewN | apply Kd.R_drew)); exact HO159.out) hb)
                have n1_ := Aside0.mk (blk_below (g := gb144) (o := .cells #[.int .u64 t146, .int .u64 t147, .int .u64 t148, .string t149, .string t150] 28 (0, 0)) (by (with_reducible repeat (first | refine blk_drewN ?_ _ | refine blk_drew ?_ | refine blk_alloc ?_ _)); exact BK144.out) hb)
                have n2_ := Aside0.mk (blk_below (g := gb151) (o := .cells #[.int .u64 t146, .int .u64 t147, .int .u64 (IntKind.u64.wrap (t148 + 1)), .string a2, .string (⟨#[]⟩ : ByteArray)] 28 (0, 0)) (by (with_reducible repeat (first | refine blk_drewN ?_ _ | refine blk_drew ?_ | refine blk_alloc ?_ _)); exact BK151.out) hb)
                have n3_ := Aside0.mk (below_step (by repeat (first | (with_reducible first | exact HB.out | apply below_alloc | apply pw_below_drewN | apply below_drew1 | refine below_set ?_ GE144.out | refine below_set ?_ GE151.out) | exact HB.out)) hb)
                clear HO159
                clear BK144
                clear BK151
                clear HB
                have HO159 := n0_
                have BK144 := n1_
                have BK151 := n2_
                have HB := n3_
                clear n0_ n1_ n2_ n3_
                (try clear hb)
                (try clear hb2)
                (try clear hk)
                (try clear hi)
                refine hK.out _ _ ⟨(blk_cell BK144.out 0).trans rfl, (blk_cell BK144.out 1).trans rfl, (blk_cell BK144.out 2).trans rfl, (blk_cell BK144.out 3).trans rfl, (blk_cell BK144.out 4).trans rfl, (blk_cell BK151.out 0).trans rfl, (blk_cell BK151.out 1).trans rfl, (blk_cell BK151.out 2).trans rfl, (blk_cell BK151.out 3).trans rfl, (blk_cell BK151.out 4).trans rfl⟩ (fun hHeld => ?_)
                clear hK K
                refine norm_ (a' := ?_) ?_ ?_
                rotate_left
                · show Act.put _ (some 44) _ = _
                  simp only [Act.put, List.setIfInBounds_toArray, List.set_cons_zero, List.set_cons_succ, i64_w, i32_w]
                  rfl
                refine pure_ (i := 13) (N := some 45) (v := ?_) (a' := ?_) #[true, true, true, true, true, true, true, true, true, true, true, true, true, true, false, false, false, false, false, false] rfl rfl (any_of HT_.out (by kernel_rfl)) (fun _ _ _ h => h) (Or.inl ⟨by rfl, ?_⟩) ?_ ?_
                rotate_left
                · intro w'
                  go_simp
                  with_reducible rfl
                rotate_left
                · simp only [Act.put, List.setIfInBounds_toArray, List.set_cons_zero, List.set_cons_succ, i64_w, i32_w]
                  rfl
                refine pure_ (i := 14) (N := some 46) (v := ?_) (a' := ?_) #[true, true, true, true, true, true, true, true, true, true, true, true, true, true, true, false, false, false, false, false] rfl rfl (any_of HT_.out (by kernel_rfl)) (fun _ _ _ h => h) (Or.inl ⟨by rfl, ?_⟩) ?_ ?_
                rotate_left
                · intro w'
                  go_simp
                  with_reducible rfl
                rotate_left
                · simp only [Act.put, List.setIfInBounds_toArray, List.set_cons_zero, List.set_cons_succ, i64_w, i32_w]
                  rfl
                refine pure_ (i := 15) (N := some 47) (v := ?_) (a' := ?_) #[true, true, true, true, true, true, true, true, true, true, true, true, true, true, true, true, false, false, false, false] rfl rfl (any_of HT_.out (by kernel_rfl)) (fun _ _ _ h => h) (Or.inl ⟨by rfl, ?_⟩) ?_ ?_
                rotate_left
                · intro w'
                  go_simp
                  with_reducible rfl
                rotate_left
                · simp only [Act.put, List.setIfInBounds_toArray, List.set_cons_zero, List.set_cons_succ, i64_w, i32_w]
                  rfl
                refine pure_ (i := 16) (N := some 48) (v := undef) (a' := ?_) #[true, true, true, true, true, true, true, true, true, true, true, true, true, true, true, true, true, false, false, false] rfl rfl (any_of HT_.out (by kernel_rfl)) (fun _ _ _ h => h) (Or.inr ⟨by rfl, rfl⟩) ?_ ?_
                rotate_left
                · simp only [Act.put, List.setIfInBounds_toArray, List.set_cons_zero, List.set_cons_succ, i64_w, i32_w]
                  rfl
                refine pure_ (i := 17) (N := some 49) (v := undef) (a' := ?_) #[true, true, true, true, true, true, true, true, true, true, true, true, true, true, true, true, true, true, false, false] rfl rfl (any_of HT_.out (by kernel_rfl)) (fun _ _ _ h => h) (Or.inr ⟨by rfl, rfl⟩) ?_ ?_
                rotate_left
                · simp only [Act.put, List.setIfInBounds_toArray, List.set_cons_zero, List.set_cons_succ, i64_w, i32_w]
                  rfl
                refine pure_ (i := 18) (N := some 50) (v := undef) (a' := ?_) #[true, true, true, true, true, true, true, true, true, true, true, true, true, true, true, true, true, true, true, false] rfl rfl (any_of HT_.out (by kernel_rfl)) (fun _ _ _ h => h) (Or.inr ⟨by rfl, rfl⟩) ?_ ?_
                rotate_left
                · simp only [Act.put, List.setIfInBounds_toArray, List.set_cons_zero, List.set_cons_succ, i64_w, i32_w]
                  rfl
                refine pure_ (i := 19) (N := some 51) (v := ?_) (a' := ?_) #[true, true, true, true, true, true, true, true, true, true, true, true, true, true, true, true, true, true, true, true] rfl rfl (any_of HT_.out (by kernel_rfl)) (fun _ _ _ h => h) (Or.inl ⟨by rfl, ?_⟩) ?_ ?_
                rotate_left
                · intro w'
                  go_simp
                  with_reducible rfl
                rotate_left
                · simp only [Act.put, List.setIfInBounds_toArray, List.set_cons_zero, List.set_cons_succ, i64_w, i32_w]
                  rfl
                refine done_ (done_of HT_.out (by kernel_rfl)) ?_
                try go_wp2
                go_meet
                case rel => exact ⟨_, (true), (by first | rfl | (simp; done) | (simp [*]; done)), H', ⟨by have := HJ3.out; first | omega | exact Nat.le_refl _⟩, ⟨by (with_reducible repeat (first | refine blk_drewN ?_ _ | refine blk_drew ?_ | refine blk_alloc ?_ _)); exact BK144.out⟩, ⟨by (with_reducible repeat (first | refine blk_drewN ?_ _ | refine blk_drew ?_ | refine blk_alloc ?_ _)); exact BK151.out⟩, ⟨by repeat (first | (with_reducible first | exact HB.out | apply below_alloc | apply pw_below_drewN | apply below_drew1 | refine below_set ?_ GE144.out | refine below_set ?_ GE151.out) | exact HB.out)⟩⟩
        case rest =>
          clear HC17
          try clear c1
          try clear c2
          try clear p2
          try clear c3
          try clear c5
          try clear c17
          try clear c23
          try clear c27
          try clear c27b0
          try clear c27b1
          try clear c32
          obtain ⟨kq, x51_16, rfl, HA, HJ16, BK144, BK151, HB⟩ := hcut
          cases kq with
          | zero => exact absurd HA.out (by simp [laws_FnSemverReleaseAbove.j1])
          | succ kj16 =>
            have H := HA.out
            clear HA
            simp only [laws_FnSemverReleaseAbove.j1] at H
            by_cases c47 : x51_16 = true
            · subst c47
              have H1 : (some true) = some r := by rw [if_pos rfl] at H; exact H
              clear H
              have H := H1
              clear H1
              obtain rfl := Option.some.inj H
              go_wp2
              go_ret
              exact ⟨by first | rfl | (simp [errW_none, errW_some] <;> rfl) | (simp [*, errW_none, errW_some] <;> rfl) | (simp [bneNil]; done), by repeat (first | (with_reducible first | exact HB.out | apply below_alloc | apply pw_below_drewN | apply below_drew1 | refine below_set ?_ GE144.out | refine below_set ?_ GE151.out) | exact HB.out)⟩
            · replace c47 := Bool.eq_false_iff.mpr c47
              subst c47
              have H1 : ((laws_svPre.f t146 t147 t148 t149 t150 a1).bind fun bt161 => ((impl_VersionGreater.f t146 t147 t148 t149 t150 bt161.1 bt161.2.1 bt161.2.2.1 bt161.2.2.2.1 bt161.2.2.2.2).bind fun t166 => (if t166 = true then ((impl_VersionLess.f t146 t147 t148 t149 t150 t146 t147 (IntKind.u64.wrap (t148 + 1)) a2 (⟨#[]⟩ : ByteArray)).bind fun t167 => (some t167)) else (some false)))) = some r := by rw [if_neg (show ¬ (false = true) by decide)] at H; exact H
              clear H
              have H := H1
              clear H1
              replace H := Option.bind_eq_some_iff.mp H
              obtain ⟨⟨t161, t162, t163, t164, t165⟩, A480, H⟩ := H
              replace H : ((impl_VersionGreater.f t146 t147 t148 t149 t150 t161 t162 t163 t164 t165).bind fun t166 => (if t166 = true then ((impl_VersionLess.f t146 t147 t148 t149 t150 t146 t147 (IntKind.u64.wrap (t148 + 1)) a2 (⟨#[]⟩ : ByteArray)).bind fun t167 => (some t167)) else (some false))) = some r := H
              have A48 := Aside0.mk A480
              clear A480
              replace H := Option.bind_eq_some_iff.mp H
              obtain ⟨t166, A490, H⟩ := H
              replace H : (if t166 = true then ((impl_VersionLess.f t146 t147 t148 t149 t150 t146 t147 (IntKind.u64.wrap (t148 + 1)) a2 (⟨#[]⟩ : ByteArray)).bind fun t167 => (some t167)) else (some false)) = some r := H
              have A49 := Aside0.mk A490
              clear A490
              by_cases c50 : t166 = true
              · subst c50
                have H1 : ((impl_VersionLess.f t146 t147 t148 t149 t150 t146 t147 (IntKind.u64.wrap (t148 + 1)) a2 (⟨#[]⟩ : ByteArray)).bind fun t167 => (some t167)) = some r := by rw [if_pos rfl] at H; exact H
                clear H
                have H := H1
                clear H1
                replace H := Option.bind_eq_some_iff.mp H
                obtain ⟨t167, A510, H⟩ := H
                replace H : (some t167) = some r := H
                have A51 := Aside0.mk A510
                clear A510
                obtain rfl := Option.some.inj H
                try go_wp2
                have n0_ := Aside0.mk (blk_drew BK144.out)
                have n1_ := Aside0.mk (blk_drew BK151.out)
                have n2_ := Aside0.mk (below_drew1 HB.out)
                clear BK144
                clear BK151
                clear HB
                have BK144 := n0_
                have BK151 := n1_
                have HB := n2_
                clear n0_ n1_ n2_
                refine start_ (n := 11) (S := fun w' => w'.cell? ⟨gb144, 0, none⟩ = some (.int .u64 t146) ∧ w'.cell? ⟨gb144, 1, none⟩ = some (.int .u64 t147) ∧ w'.cell? ⟨gb144, 2, none⟩ = some (.int .u64 t148) ∧ w'.cell? ⟨gb144, 3, none⟩ = some (.string t149) ∧ w'.cell? ⟨gb144, 4, none⟩ = some (.string t150) ∧ w'.cell? ⟨gb151, 0, none⟩ = some (.int .u64 t146) ∧ w'.cell? ⟨gb151, 1, none⟩ = some (.int .u64 t147) ∧ w'.cell? ⟨gb151, 2, none⟩ = some (.int .u64 (IntKind.u64.wrap (t148 + 1))) ∧ w'.cell? ⟨gb151, 3, none⟩ = some (.string a2) ∧ w'.cell? ⟨gb151, 4, none⟩ = some (.string (⟨#[]⟩ : ByteArray))) (ds := []) #[false, false, false, false, false, false, false, false, false, false, false] (by kernel_rfl) rfl rfl ⟨(blk_cell BK144.out 0).trans rfl, (blk_cell BK144.out 1).trans rfl, (blk_cell BK144.out 2).trans rfl, (blk_cell BK144.out 3).trans rfl, (blk_cell BK144.out 4).trans rfl, (blk_cell BK151.out 0).trans rfl, (blk_cell BK151.out 1).trans rfl, (blk_cell BK151.out 2).trans rfl, (blk_cell BK151.out 3).trans rfl, (blk_cell BK151.out 4).trans rfl⟩ (fun hHeld => ?_); refine with_tabW laws_FnSemverReleaseAbove.tab7 laws_FnSemverReleaseAbove.bits7 (fun HT_ HW_ => ?_)
                generalize wc.drew = w52 at BK144 BK151 HB hHeld ⊢
                refine pure_ (i := 2) (N := some 54) (v := ?_) (a' := ?_) #[false, false, true, false, false, false, false, false, false, false, false] rfl rfl (any_of HT_.out (by kernel_rfl)) (fun _ _ _ h => h) (Or.inl ⟨by rfl, ?_⟩) ?_ ?_
                rotate_left
                · intro w'
                  go_simp
                  with_reducible rfl
                rotate_left
                · simp only [Act.put, List.setIfInBounds_toArray, List.set_cons_zero, List.set_cons_succ, i64_w, i32_w]
                  rfl
                refine take_ (i := 0) (N := some 52) (v := ?_) (a' := ?_) #[true, false, true, false, false, false, false, false, false, false, false] rfl rfl (take_ofW HT_.out HW_.out (by kernel_rfl)) (fun _ _ _ h => h) (Or.inl ⟨by rfl, ?_⟩) hHeld ?_ ?_
                rotate_left
                · rintro w' ⟨s0, s1, s2, s3, s4, s5, s6, s7, s8, s9⟩
                  go_simp
                  with_reducible rfl
                rotate_left
                · simp only [Act.put, List.setIfInBounds_toArray, List.set_cons_zero, List.set_cons_succ, i64_w, i32_w]
                  rfl
                refine take_ (i := 1) (N := some 53) (v := ?_) (a' := ?_) #[true, true, true, false, false, false, false, false, false, false, false] rfl rfl (take_ofW HT_.out HW_.out (by kernel_rfl)) (fun _ _ _ h => h) (Or.inl ⟨by rfl, ?_⟩) hHeld ?_ ?_
                rotate_left
                · rintro w' ⟨s0, s1, s2, s3, s4, s5, s6, s7, s8, s9⟩
                  go_simp
                  with_reducible rfl
                rotate_left
                · simp only [Act.put, List.setIfInBounds_toArray, List.set_cons_zero, List.set_cons_succ, i64_w, i32_w]
                  rfl
                refine one_ (i := 3) (N := some 55) #[true, true, true, true, false, false, false, false, false, false, false] rfl rfl (one_of HT_.out (by kernel_rfl)) (by decide) (fun K hK => ?_)
                refine goes_ Tryd.func23 (by kernel_rfl) rfl #[.agg #[.int .u64 t146, .int .u64 t147, .int .u64 t148, .string t149, .string t150], .string a1] (by rfl) rfl rfl (by (try simp only [List.map_toArray, List.map_cons, List.map_nil]); first | done | rfl | (simp only [List.length_drop, List.length_take]; rfl)) ?_
                with_reducible refine (laws_svPre.calls t146 t147 t148 t149 t150 a1 t161 t162 t163 t164 t165 _ A48.out).mono ?_
                rintro e w53 ⟨rfl, hb⟩
                refine ⟨_, rfl, ?_⟩
                have n0_ := Aside0.mk (blk_below (g := gb144) (o := .cells #[.int .u64 t146, .int .u64 t147, .int .u64 t148, .string t149, .string t150] 28 (0, 0)) (by (with_reducible repeat (first | refine blk_drewN ?_ _ | refine blk_drew ?_ | refine blk_alloc ?_ _)); exact BK144.out) hb)
                have n1_ := Aside0.mk (blk_below (g := gb151) (o := .cells #[.int .u64 t146, .int .u64 t147, .int .u64 (IntKind.u64.wrap (t148 + 1)), .string a2, .string (⟨#[]⟩ : ByteArray)] 28 (0, 0)) (by (with_reducible repeat (first | refine blk_drewN ?_ _ | refine blk_drew ?_ | refine blk_alloc ?_ _)); exact BK151.out) hb)
                have n2_ := Aside0.mk (below_step (by repeat (first | (with_reducible first | exact HB.out | apply below_alloc | apply pw_below_drewN | apply below_drew1 | refine below_set ?_ GE144.out | refine below_set ?_ GE151.out) | exact HB.out)) hb)
                clear BK144
                clear BK151
                clear HB
                have BK144 := n0_
                have BK151 := n1_
                have HB := n2_
                clear n0_ n1_ n2_
                (try clear hb)
                (try clear hb2)
                (try clear hk)
                (try clear hi)
                refine hK.out _ _ ⟨(blk_cell BK144.out 0).trans rfl, (blk_cell BK144.out 1).trans rfl, (blk_cell BK144.out 2).trans rfl, (blk_cell BK144.out 3).trans rfl, (blk_cell BK144.out 4).trans rfl, (blk_cell BK151.out 0).trans rfl, (blk_cell BK151.out 1).trans rfl, (blk_cell BK151.out 2).trans rfl, (blk_cell BK151.out 3).trans rfl, (blk_cell BK151.out 4).trans rfl⟩ (fun hHeld => ?_)
                clear hK K
                refine norm_ (a' := ?_) ?_ ?_
                rotate_left
                · show Act.put _ (some 55) _ = _
                  simp only [Act.put, List.setIfInBounds_toArray, List.set_cons_zero, List.set_cons_succ, i64_w, i32_w]
                  rfl
                refine one_ (i := 4) (N := some 56) #[true, true, true, true, true, false, false, false, false, false, false] rfl rfl (one_of HT_.out (by kernel_rfl)) (by decide) (fun K hK => ?_)
                refine goes_ Tryd.func24 (by kernel_rfl) rfl #[.agg #[.int .u64 t146, .int .u64 t147, .int .u64 t148, .string t149, .string t150], .agg #[.int .u64 t161, .int .u64 t162, .int .u64 t163, .string t164, .string t165]] (by rfl) rfl rfl (by (try simp only [List.map_toArray, List.map_cons, List.map_nil]); first | done | rfl | (simp only [List.length_drop, List.length_take]; rfl)) ?_
                with_reducible refine (impl_VersionGreater.calls t146 t147 t148 t149 t150 t161 t162 t163 t164 t165 true _ ?side1 A49.out).mono ?_
                (case side1 => exact HStd.out.below (by repeat (first | (with_reducible first | exact HB.out | apply below_alloc | apply pw_below_drewN | apply below_drew1 | refine below_set ?_ GE144.out | refine below_set ?_ GE151.out) | exact HB.out)))
                rintro e w54 ⟨rfl, hb⟩
                refine ⟨_, rfl, ?_⟩
                have n0_ := Aside0.mk (blk_below (g := gb144) (o := .cells #[.int .u64 t146, .int .u64 t147, .int .u64 t148, .string t149, .string t150] 28 (0, 0)) (by (with_reducible repeat (first | refine blk_drewN ?_ _ | refine blk_drew ?_ | refine blk_alloc ?_ _)); exact BK144.out) hb)
                have n1_ := Aside0.mk (blk_below (g := gb151) (o := .cells #[.int .u64 t146, .int .u64 t147, .int .u64 (IntKind.u64.wrap (t148 + 1)), .string a2, .string (⟨#[]⟩ : ByteArray)] 28 (0, 0)) (by (with_reducible repeat (first | refine blk_drewN ?_ _ | refine blk_drew ?_ | refine blk_alloc ?_ _)); exact BK151.out) hb)
                have n2_ := Aside0.mk (below_step (by repeat (first | (with_reducible first | exact HB.out | apply below_alloc | apply pw_below_drewN | apply below_drew1 | refine below_set ?_ GE144.out | refine below_set ?_ GE151.out) | exact HB.out)) hb)
                clear BK144
                clear BK151
                clear HB
                have BK144 := n0_
                have BK151 := n1_
                have HB := n2_
                clear n0_ n1_ n2_
                (try clear hb)
                (try clear hb2)
                (try clear hk)
                (try clear hi)
                refine hK.out _ _ ⟨(blk_cell BK144.out 0).trans rfl, (blk_cell BK144.out 1).trans rfl, (blk_cell BK144.out 2).trans rfl, (blk_cell BK144.out 3).trans rfl, (blk_cell BK144.out 4).trans rfl, (blk_cell BK151.out 0).trans rfl, (blk_cell BK151.out 1).trans rfl, (blk_cell BK151.out 2).trans rfl, (blk_cell BK151.out 3).trans rfl, (blk_cell BK151.out 4).trans rfl⟩ (fun hHeld => ?_)
                clear hK K
                refine norm_ (a' := ?_) ?_ ?_
                rotate_left
                · show Act.put _ (some 56) _ = _
                  simp only [Act.put, List.setIfInBounds_toArray, List.set_cons_zero, List.set_cons_succ, i64_w, i32_w]
                  rfl
                refine pure_ (i := 5) (N := some 57) (v := ?_) (a' := ?_) #[true, true, true, true, true, true, false, false, false, false, false] rfl rfl (any_of HT_.out (by kernel_rfl)) (fun _ _ _ h => h) (Or.inl ⟨by rfl, ?_⟩) ?_ ?_
                rotate_left
                · intro w'
                  go_simp
                  with_reducible rfl
                rotate_left
                · simp only [Act.put, List.setIfInBounds_toArray, List.set_cons_zero, List.set_cons_succ, i64_w, i32_w]
                  rfl
                refine take_ (i := 6) (N := some 58) (v := ?_) (a' := ?_) #[true, true, true, true, true, true, true, false, false, false, false] rfl rfl (take_ofW HT_.out HW_.out (by kernel_rfl)) (fun _ _ _ h => h) (Or.inl ⟨by rfl, ?_⟩) hHeld ?_ ?_
                rotate_left
                · rintro w' ⟨s0, s1, s2, s3, s4, s5, s6, s7, s8, s9⟩
                  go_simp
                  with_reducible rfl
                rotate_left
                · simp only [Act.put, List.setIfInBounds_toArray, List.set_cons_zero, List.set_cons_succ, i64_w, i32_w]
                  rfl
                refine take_ (i := 7) (N := some 59) (v := ?_) (a' := ?_) #[true, true, true, true, true, true, true, true, false, false, false] rfl rfl (take_ofW HT_.out HW_.out (by kernel_rfl)) (fun _ _ _ h => h) (Or.inl ⟨by rfl, ?_⟩) hHeld ?_ ?_
                rotate_left
                · rintro w' ⟨s0, s1, s2, s3, s4, s5, s6, s7, s8, s9⟩
                  go_simp
                  with_reducible rfl
                rotate_left
                · simp only [Act.put, List.setIfInBounds_toArray, List.set_cons_zero, List.set_cons_succ, i64_w, i32_w]
                  rfl
                refine one_ (i := 8) (N := some 60) #[true, true, true, true, true, true, true, true, true, false, false] rfl rfl (one_of HT_.out (by kernel_rfl)) (by decide) (fun K hK => ?_)
                refine goes_ Tryd.func25 (by kernel_rfl) rfl #[.agg #[.int .u64 t146, .int .u64 t147, .int .u64 t148, .string t149, .string t150], .agg #[.int .u64 t146, .int .u64 t147, .int .u64 (IntKind.u64.wrap (t148 + 1)), .string a2, .string (⟨#[]⟩ : ByteArray)]] (by rfl) rfl rfl (by (try simp only [List.map_toArray, List.map_cons, List.map_nil]); first | done | rfl | (simp only [List.length_drop, List.length_take]; rfl)) ?_
                with_reducible refine (impl_VersionLess.calls t146 t147 t148 t149 t150 t146 t147 (IntKind.u64.wrap (t148 + 1)) a2 (⟨#[]⟩ : ByteArray) t167 _ ?side1 A51.out).mono ?_
                (case side1 => exact HStd.out.below (by repeat (first | (with_reducible first | exact HB.out | apply below_alloc | apply pw_below_drewN | apply below_drew1 | refine below_set ?_ GE144.out | refine below_set ?_ GE151.out) | exact HB.out)))
                rintro e w55 ⟨rfl, hb⟩
                refine ⟨_, rfl, ?_⟩
                have n0_ := Aside0.mk (blk_below (g := gb144) (o := .cells #[.int .u64 t146, .int .u64 t147, .int .u64 t148, .string t149, .string t150] 28 (0, 0)) (by (with_reducible repeat (first | refine blk_drewN ?_ _ | refine blk_drew ?_ | refine blk_alloc ?_ _)); exact BK144.out) hb)
                have n1_ := Aside0.mk (blk_below (g := gb151) (o := .cells #[.int .u64 t146, .int .u64 t147, .int .u64 (IntKind.u64.wrap (t148 + 1)), .string a2, .string (⟨#[]⟩ : ByteArray)] 28 (0, 0)) (by (with_reducible repeat (first | refine blk_drewN ?_ _ | refine blk_drew ?_ | refine blk_alloc ?_ _)); exact BK151.out) hb)
                have n2_ := Aside0.mk (below_step (by repeat (first | (with_reducible first | exact HB.out | apply below_alloc | apply pw_below_drewN | apply below_drew1 | refine below_set ?_ GE144.out | refine below_set ?_ GE151.out) | exact HB.out)) hb)
                clear BK144
                clear BK151
                clear HB
                have BK144 := n0_
                have BK151 := n1_
                have HB := n2_
                clear n0_ n1_ n2_
                (try clear hb)
                (try clear hb2)
                (try clear hk)
                (try clear hi)
                refine hK.out _ _ ⟨(blk_cell BK144.out 0).trans rfl, (blk_cell BK144.out 1).trans rfl, (blk_cell BK144.out 2).trans rfl, (blk_cell BK144.out 3).trans rfl, (blk_cell BK144.out 4).trans rfl, (blk_cell BK151.out 0).trans rfl, (blk_cell BK151.out 1).trans rfl, (blk_cell BK151.out 2).trans rfl, (blk_cell BK151.out 3).trans rfl, (blk_cell BK151.out 4).trans rfl⟩ (fun hHeld => ?_)
                clear hK K
                refine norm_ (a' := ?_) ?_ ?_
                rotate_left
                · show Act.put _ (some 60) _ = _
                  simp only [Act.put, List.setIfInBounds_toArray, List.set_cons_zero, List.set_cons_succ, i64_w, i32_w]
                  rfl
                refine pure_ (i := 9) (N := some 61) (v := ?_) (a' := ?_) #[true, true, true, true, true, true, true, true, true, true, false] rfl rfl (any_of HT_.out (by kernel_rfl)) (fun _ _ _ h => h) (Or.inl ⟨by rfl, ?_⟩) ?_ ?_
                rotate_left
                · intro w'
                  go_simp
                  with_reducible rfl
                rotate_left
                · simp only [Act.put, List.setIfInBounds_toArray, List.set_cons_zero, List.set_cons_succ, i64_w, i32_w]
                  rfl
                refine pure_ (i := 10) (N := some 6) (v := ?_) (a' := ?_) #[true, true, true, true, true, true, true, true, true, true, true] rfl rfl (any_of HT_.out (by kernel_rfl)) (fun _ _ _ h => h) (Or.inl ⟨by rfl, ?_⟩) ?_ ?_
                rotate_left
                · intro w'
                  go_simp
                  with_reducible rfl
                rotate_left
                · simp only [Act.put, List.setIfInBounds_toArray, List.set_cons_zero, List.set_cons_succ, i64_w, i32_w]
                  rfl
                refine done_ (done_of HT_.out (by kernel_rfl)) ?_
                try go_wp2
                go_ret
                exact ⟨by first | rfl | (simp [errW_none, errW_some] <;> rfl) | (simp [*, errW_none, errW_some] <;> rfl) | (simp [bneNil]; done), by repeat (first | (with_reducible first | exact HB.out | apply below_alloc | apply pw_below_drewN | apply below_drew1 | refine below_set ?_ GE144.out | refine below_set ?_ GE151.out) | exact HB.out)⟩
              · replace c50 := Bool.eq_false_iff.mpr c50
                subst c50
                have H1 : (some false) = some r := by rw [if_neg (show ¬ (false = true) by decide)] at H; exact H
                clear H
                have H := H1
                clear H1
                obtain rfl := Option.some.inj H
                try go_wp2
                have n0_ := Aside0.mk (blk_drew BK144.out)
                have n1_ := Aside0.mk (blk_drew BK151.out)
                have n2_ := Aside0.mk (below_drew1 HB.out)
                clear BK144
                clear BK151
                clear HB
                have BK144 := n0_
                have BK151 := n1_
                have HB := n2_
                clear n0_ n1_ n2_
                refine start_ (n := 11) (S := fun w' => w'.cell? ⟨gb144, 0, none⟩ = some (.int .u64 t146) ∧ w'.cell? ⟨gb144, 1, none⟩ = some (.int .u64 t147) ∧ w'.cell? ⟨gb144, 2, none⟩ = some (.int .u64 t148) ∧ w'.cell? ⟨gb144, 3, none⟩ = some (.string t149) ∧ w'.cell? ⟨gb144, 4, none⟩ = some (.string t150)) (ds := []) #[false, false, false, false, false, false, false, false, false, false, false] (by kernel_rfl) rfl rfl ⟨(blk_cell BK144.out 0).trans rfl, (blk_cell BK144.out 1).trans rfl, (blk_cell BK144.out 2).trans rfl, (blk_cell BK144.out 3).trans rfl, (blk_cell BK144.out 4).trans rfl⟩ (fun hHeld => ?_); refine with_tabW laws_FnSemverReleaseAbove.tab7 laws_FnSemverReleaseAbove.bits7 (fun HT_ HW_ => ?_)
                generalize wc.drew = w56 at BK144 BK151 HB hHeld ⊢
                refine pure_ (i := 2) (N := some 54) (v := ?_) (a' := ?_) #[false, false, true, false, false, false, false, false, false, false, false] rfl rfl (any_of HT_.out (by kernel_rfl)) (fun _ _ _ h => h) (Or.inl ⟨by rfl, ?_⟩) ?_ ?_
                rotate_left
                · intro w'
                  go_simp
                  with_reducible rfl
                rotate_left
                · simp only [Act.put, List.setIfInBounds_toArray, List.set_cons_zero, List.set_cons_succ, i64_w, i32_w]
                  rfl
                refine take_ (i := 0) (N := some 52) (v := ?_) (a' := ?_) #[true, false, true, false, false, false, false, false, false, false, false] rfl rfl (take_ofW HT_.out HW_.out (by kernel_rfl)) (fun _ _ _ h => h) (Or.inl ⟨by rfl, ?_⟩) hHeld ?_ ?_
                rotate_left
                · rintro w' ⟨s0, s1, s2, s3, s4⟩
                  go_simp
                  with_reducible rfl
                rotate_left
                · simp only [Act.put, List.setIfInBounds_toArray, List.set_cons_zero, List.set_cons_succ, i64_w, i32_w]
                  rfl
                refine take_ (i := 1) (N := some 53) (v := ?_) (a' := ?_) #[true, true, true, false, false, false, false, false, false, false, false] rfl rfl (take_ofW HT_.out HW_.out (by kernel_rfl)) (fun _ _ _ h => h) (Or.inl ⟨by rfl, ?_⟩) hHeld ?_ ?_
                rotate_left
                · rintro w' ⟨s0, s1, s2, s3, s4⟩
                  go_simp
                  with_reducible rfl
                rotate_left
                · simp only [Act.put, List.setIfInBounds_toArray, List.set_cons_zero, List.set_cons_succ, i64_w, i32_w]
                  rfl
                refine one_ (i := 3) (N := some 55) #[true, true, true, true, false, false, false, false, false, false, false] rfl rfl (one_of HT_.out (by kernel_rfl)) (by decide) (fun K hK => ?_)
                refine goes_ Tryd.func23 (by kernel_rfl) rfl #[.agg #[.int .u64 t146, .int .u64 t147, .int .u64 t148, .string t149, .string t150], .string a1] (by rfl) rfl rfl (by (try simp only [List.map_toArray, List.map_cons, List.map_nil]); first | done | rfl | (simp only [List.length_drop, List.length_take]; rfl)) ?_
                with_reducible refine (laws_svPre.calls t146 t147 t148 t149 t150 a1 t161 t162 t163 t164 t165 _ A48.out).mono ?_
                rintro e w57 ⟨rfl, hb⟩
                refine ⟨_, rfl, ?_⟩
                have n0_ := Aside0.mk (blk_below (g := gb144) (o := .cells #[.int .u64 t146, .int .u64 t147, .int .u64 t148, .string t149, .string t150] 28 (0, 0)) (by (with_reducible repeat (first | refine blk_drewN ?_ _ | refine blk_drew ?_ | refine blk_alloc ?_ _)); exact BK144.out) hb)
                have n1_ := Aside0.mk (blk_below (g := gb151) (o := .cells #[.int .u64 t146, .int .u64 t147, .int .u64 (IntKind.u64.wrap (t148 + 1)), .string a2, .string (⟨#[]⟩ : ByteArray)] 28 (0, 0)) (by (with_reducible repeat (first | refine blk_drewN ?_ _ | refine blk_drew ?_ | refine blk_alloc ?_ _)); exact BK151.out) hb)
                have n2_ := Aside0.mk (below_step (by repeat (first | (with_reducible first | exact HB.out | apply below_alloc | apply pw_below_drewN | apply below_drew1 | refine below_set ?_ GE144.out | refine below_set ?_ GE151.out) | exact HB.out)) hb)
                clear BK144
                clear BK151
                clear HB
                have BK144 := n0_
                have BK151 := n1_
                have HB := n2_
                clear n0_ n1_ n2_
                (try clear hb)
                (try clear hb2)
                (try clear hk)
                (try clear hi)
                refine hK.out _ _ ⟨(blk_cell BK144.out 0).trans rfl, (blk_cell BK144.out 1).trans rfl, (blk_cell BK144.out 2).trans rfl, (blk_cell BK144.out 3).trans rfl, (blk_cell BK144.out 4).trans rfl⟩ (fun hHeld => ?_)
                clear hK K
                refine norm_ (a' := ?_) ?_ ?_
                rotate_left
                · show Act.put _ (some 55) _ = _
                  simp only [Act.put, List.setIfInBounds_toArray, List.set_cons_zero, List.set_cons_succ, i64_w, i32_w]
                  rfl
                refine one_ (i := 4) (N := some 56) #[true, true, true, true, true, false, false, false, false, false, false] rfl rfl (one_of HT_.out (by kernel_rfl)) (by decide) (fun K hK => ?_)
                refine goes_ Tryd.func24 (by kernel_rfl) rfl #[.agg #[.int .u64 t146, .int .u64 t147, .int .u64 t148, .string t149, .string t150], .agg #[.int .u64 t161, .int .u64 t162, .int .u64 t163, .string t164, .string t165]] (by rfl) rfl rfl (by (try simp only [List.map_toArray, List.map_cons, List.map_nil]); first | done | rfl | (simp only [List.length_drop, List.length_take]; rfl)) ?_
                with_reducible refine (impl_VersionGreater.calls t146 t147 t148 t149 t150 t161 t162 t163 t164 t165 false _ ?side1 A49.out).mono ?_
                (case side1 => exact HStd.out.below (by repeat (first | (with_reducible first | exact HB.out | apply below_alloc | apply pw_below_drewN | apply below_drew1 | refine below_set ?_ GE144.out | refine below_set ?_ GE151.out) | exact HB.out)))
                rintro e w58 ⟨rfl, hb⟩
                refine ⟨_, rfl, ?_⟩
                have n0_ := Aside0.mk (blk_below (g := gb144) (o := .cells #[.int .u64 t146, .int .u64 t147, .int .u64 t148, .string t149, .string t150] 28 (0, 0)) (by (with_reducible repeat (first | refine blk_drewN ?_ _ | refine blk_drew ?_ | refine blk_alloc ?_ _)); exact BK144.out) hb)
                have n1_ := Aside0.mk (blk_below (g := gb151) (o := .cells #[.int .u64 t146, .int .u64 t147, .int .u64 (IntKind.u64.wrap (t148 + 1)), .string a2, .string (⟨#[]⟩ : ByteArray)] 28 (0, 0)) (by (with_reducible repeat (first | refine blk_drewN ?_ _ | refine blk_drew ?_ | refine blk_alloc ?_ _)); exact BK151.out) hb)
                have n2_ := Aside0.mk (below_step (by repeat (first | (with_reducible first | exact HB.out | apply below_alloc | apply pw_below_drewN | apply below_drew1 | refine below_set ?_ GE144.out | refine below_set ?_ GE151.out) | exact HB.out)) hb)
                clear BK144
                clear BK151
                clear HB
                have BK144 := n0_
                have BK151 := n1_
                have HB := n2_
                clear n0_ n1_ n2_
                (try clear hb)
                (try clear hb2)
                (try clear hk)
                (try clear hi)
                refine hK.out _ _ ⟨(blk_cell BK144.out 0).trans rfl, (blk_cell BK144.out 1).trans rfl, (blk_cell BK144.out 2).trans rfl, (blk_cell BK144.out 3).trans rfl, (blk_cell BK144.out 4).trans rfl⟩ (fun hHeld => ?_)
                clear hK K
                refine norm_ (a' := ?_) ?_ ?_
                rotate_left
                · show Act.put _ (some 56) _ = _
                  simp only [Act.put, List.setIfInBounds_toArray, List.set_cons_zero, List.set_cons_succ, i64_w, i32_w]
                  rfl
                refine pure_ (i := 5) (N := some 57) (v := ?_) (a' := ?_) #[true, true, true, true, true, true, false, false, false, false, false] rfl rfl (any_of HT_.out (by kernel_rfl)) (fun _ _ _ h => h) (Or.inl ⟨by rfl, ?_⟩) ?_ ?_
                rotate_left
                · intro w'
                  go_simp
                  with_reducible rfl
                rotate_left
                · simp only [Act.put, List.setIfInBounds_toArray, List.set_cons_zero, List.set_cons_succ, i64_w, i32_w]
                  rfl
                refine pure_ (i := 6) (N := some 58) (v := undef) (a' := ?_) #[true, true, true, true, true, true, true, false, false, false, false] rfl rfl (any_of HT_.out (by kernel_rfl)) (fun _ _ _ h => h) (Or.inr ⟨by rfl, rfl⟩) ?_ ?_
                rotate_left
                · simp only [Act.put, List.setIfInBounds_toArray, List.set_cons_zero, List.set_cons_succ, i64_w, i32_w]
                  rfl
                refine pure_ (i := 7) (N := some 59) (v := undef) (a' := ?_) #[true, true, true, true, true, true, true, true, false, false, false] rfl rfl (any_of HT_.out (by kernel_rfl)) (fun _ _ _ h => h) (Or.inr ⟨by rfl, rfl⟩) ?_ ?_
                rotate_left
                · simp only [Act.put, List.setIfInBounds_toArray, List.set_cons_zero, List.set_cons_succ, i64_w, i32_w]
                  rfl
                refine pure_ (i := 8) (N := some 60) (v := undef) (a' := ?_) #[true, true, true, true, true, true, true, true, true, false, false] rfl rfl (any_of HT_.out (by kernel_rfl)) (fun _ _ _ h => h) (Or.inr ⟨by rfl, rfl⟩) ?_ ?_
                rotate_left
                · simp only [Act.put, List.setIfInBounds_toArray, List.set_cons_zero, List.set_cons_succ, i64_w, i32_w]
                  rfl
                refine pure_ (i := 9) (N := some 61) (v := ?_) (a' := ?_) #[true, true, true, true, true, true, true, true, true, true, false] rfl rfl (any_of HT_.out (by kernel_rfl)) (fun _ _ _ h => h) (Or.inl ⟨by rfl, ?_⟩) ?_ ?_
                rotate_left
                · intro w'
                  go_simp
                  with_reducible rfl
                rotate_left
                · simp only [Act.put, List.setIfInBounds_toArray, List.set_cons_zero, List.set_cons_succ, i64_w, i32_w]
                  rfl
                refine pure_ (i := 10) (N := some 6) (v := ?_) (a' := ?_) #[true, true, true, true, true, true, true, true, true, true, true] rfl rfl (any_of HT_.out (by kernel_rfl)) (fun _ _ _ h => h) (Or.inl ⟨by rfl, ?_⟩) ?_ ?_
                rotate_left
                · intro w'
                  go_simp
                  with_reducible rfl
                rotate_left
                · simp only [Act.put, List.setIfInBounds_toArray, List.set_cons_zero, List.set_cons_succ, i64_w, i32_w]
                  rfl
                refine done_ (done_of HT_.out (by kernel_rfl)) ?_
                try go_wp2
                go_ret
                exact ⟨by first | rfl | (simp [errW_none, errW_some] <;> rfl) | (simp [*, errW_none, errW_some] <;> rfl) | (simp [bneNil]; done), by repeat (first | (with_reducible first | exact HB.out | apply below_alloc | apply pw_below_drewN | apply below_drew1 | refine below_set ?_ GE144.out | refine below_set ?_ GE151.out) | exact HB.out)⟩

end Go.Proofs.YtekmeoemnekmcaaDoor.PX
