/- The row and the tied card of FnSemverEqualCompares, out of its printed walk and its plain law. For every input that the statement lets in. -/
import Derived.Test.YtllkoadcpobdaaaDoorZCardSemverEqualCompares10
namespace Go.Proofs.YtllkoadcpobdaaaDoor.PX

open Go.RowKit Go.Proofs.YtllkoadcpobdaaaDoorW.PrintWords Go.Proofs.YtllkoadcpobdaaaDoorW.PrintLast Go.Proofs.YtllkoadcpobdaaaDoorW.PrintMore

attribute [local go_sem] max2_int min2_int max_two min_two max_three min_three max_four min_four   -- for this text's walks alone

set_option linter.unusedVariables false

set_option linter.unusedSimpArgs false

set_option maxHeartbeats 80000000 in
set_option maxRecDepth 100000 in
theorem laws_svGood.calls (k : Nat) (A0 : Option Addr) (c0 : Nat) (l0 : List (S26)) (r : Bool) (w : World) (hr0 : Kd.C k26 w A0 l0.length l0) (hc0 : l0.length ≤ c0) (h : laws_svGood.f k l0 = some r) :
    Calls Tryd.prog 16 #[.slice A0 l0.length c0] w fun e w' => e = .returned (.bool r) ∧ Below w.heap.size w w' := by
  have hu26 := Tryd.underlying26
  have HR0 := Aside0.mk hr0
  have HC0 := Aside0.mk hc0
  clear hr0 hc0
  have HB := Aside0.mk (Below.refl w.heap.size w)
  have H : (laws_svGood.l0 k l0 (l0.length : Int) 0) = some r := h
  clear h
  have H' := Aside0.mk H
  clear H
  go_enter Tryd.func16, Tryd.ntmps16
  go_wp2
  go_loopg [7] k (fun kq v7 w' => ∃ (x7_1 : Int), v7 = .int .i64 x7_1 ∧ Aside0 (laws_svGood.l0 kq l0 (l0.length : Int) x7_1 = some r) ∧ Aside0 (kq ≤ k) ∧ Aside0 (Below w.heap.size w w'))
  case atStart => exact ⟨(0), (by first | rfl | (simp; done) | (simp [*]; done)), H', ⟨Nat.le_refl _⟩, ⟨by repeat (first | (with_reducible first | exact HB.out | apply below_alloc | apply pw_below_drewN | apply below_drew1) | exact HB.out)⟩⟩
  case round =>
    clear H'
    try clear c1
    obtain ⟨x7_1, rfl, HA, HK1, HB⟩ := hrel
    cases gk with
    | zero => exact absurd HA.out (by simp [laws_svGood.l0])
    | succ k1 =>
      have H := HA.out
      clear HA
      simp only [laws_svGood.l0] at H
      by_cases c2 : x7_1 < (l0.length : Int)
      · rw [if_pos c2] at H
        have c2b0 : decide (x7_1 < (l0.length : Int)) = true := decide_eq_true c2
        clear c2
        by_cases c3 : 0 ≤ x7_1
        · rw [if_pos c3] at H
          have c3b0 : decide (0 ≤ x7_1) = true := decide_eq_true c3
          clear c3
          by_cases c4 : x7_1 < (l0.length : Int)
          · rw [if_pos c4] at H
            have c4b0 : decide (x7_1 < (l0.length : Int)) = true := decide_eq_true c4
            clear c4
            obtain ⟨y139, hy139⟩ : ∃ y_ : List ByteArray, y_ = (([(rd_T26 l0 x7_1).f3, (rd_T26 l0 x7_1).f4] : List ByteArray)) := ⟨_, rfl⟩
            replace H : ((laws_svShort.f k1 y139).bind fun t142 => (if t142 = true then ((spec_Good.f k1 ((rd_T26 l0 x7_1).f0) ((rd_T26 l0 x7_1).f1) ((rd_T26 l0 x7_1).f2) ((rd_T26 l0 x7_1).f3) ((rd_T26 l0 x7_1).f4)).bind fun t143 => (if t143 = true then (laws_svGood.l0 k1 l0 (l0.length : Int) (wrap64 (x7_1 + 1))) else (some false))) else (some false))) = some r := by first | (rw [hy139]; with_reducible exact H) | (have H2_ := (Option.bind_some _ _).symm.trans H; rw [hy139]; with_reducible exact H2_) | (have H2_ := (Option.bind_some _ _).symm.trans H; with_reducible exact H2_) | with_reducible exact H | (rw [hy139]; exact H) | exact H
            have Ny139 := Aside0.mk hy139
            clear hy139
            replace H := Option.bind_eq_some_iff.mp H
            obtain ⟨t142, A50, H⟩ := H
            replace H : (if t142 = true then ((spec_Good.f k1 ((rd_T26 l0 x7_1).f0) ((rd_T26 l0 x7_1).f1) ((rd_T26 l0 x7_1).f2) ((rd_T26 l0 x7_1).f3) ((rd_T26 l0 x7_1).f4)).bind fun t143 => (if t143 = true then (laws_svGood.l0 k1 l0 (l0.length : Int) (wrap64 (x7_1 + 1))) else (some false))) else (some false)) = some r := H
            have A5 := Aside0.mk A50
            clear A50
            by_cases c6 : t142 = true
            · subst c6
              have H1 : ((spec_Good.f k1 ((rd_T26 l0 x7_1).f0) ((rd_T26 l0 x7_1).f1) ((rd_T26 l0 x7_1).f2) ((rd_T26 l0 x7_1).f3) ((rd_T26 l0 x7_1).f4)).bind fun t143 => (if t143 = true then (laws_svGood.l0 k1 l0 (l0.length : Int) (wrap64 (x7_1 + 1))) else (some false))) = some r := by rw [if_pos rfl] at H; exact H
              clear H
              have H := H1
              clear H1
              replace H := Option.bind_eq_some_iff.mp H
              obtain ⟨t143, A70, H⟩ := H
              replace H : (if t143 = true then (laws_svGood.l0 k1 l0 (l0.length : Int) (wrap64 (x7_1 + 1))) else (some false)) = some r := H
              have A7 := Aside0.mk A70
              clear A70
              by_cases c8 : t143 = true
              · subst c8
                have H1 : (laws_svGood.l0 k1 l0 (l0.length : Int) (wrap64 (x7_1 + 1))) = some r := by rw [if_pos rfl] at H; exact H
                clear H
                have H := H1
                clear H1
                have H' := Aside0.mk H
                clear H
                have p137 : 0 ≤ (x7_1 : Int) := of_decide_eq_true (by first | (with_reducible assumption) | assumption)
                have q137 : x7_1 < (l0.length : Int) := of_decide_eq_true (by first | (with_reducible assumption) | assumption)
                obtain ⟨ad137, e137, hx137_0, hx137_1, hx137_2, hx137_3, hx137_4⟩ := at_T26 HR0.out x7_1 p137 q137
                cases e137
                replace hx137_0 := (HB.out.cell (World.block_lt_of_cell? w _ hx137_0)).trans hx137_0
                replace hx137_1 := (HB.out.cell (World.block_lt_of_cell? w _ hx137_1)).trans hx137_1
                replace hx137_2 := (HB.out.cell (World.block_lt_of_cell? w _ hx137_2)).trans hx137_2
                replace hx137_3 := (HB.out.cell (World.block_lt_of_cell? w _ hx137_3)).trans hx137_3
                replace hx137_4 := (HB.out.cell (World.block_lt_of_cell? w _ hx137_4)).trans hx137_4
                replace p137 := eq_true p137
                replace q137 := eq_true q137
                go_wp2_with (first | ((with_reducible refine gate_dst (N := 4) rfl ?_); refine box_event ?hg (N := 4) ?hd (cs := #[.int .u64 0, .int .u64 0, .int .u64 0, .string (⟨#[]⟩ : ByteArray), .string (⟨#[]⟩ : ByteArray)]) (t := 26) ?hr ?_; (case hd => rfl); (case hg => rfl); (case hr => first | (go_simp; done) | (go_simp; rfl) | (go_simp; simp [u8w]; done)); intro gb138 hg w9 hbox hb; have n0_ := Aside0.mk (below_step (by repeat (first | (with_reducible first | exact HB.out | apply below_alloc | apply pw_below_drewN | apply below_drew1) | exact HB.out)) hb); have n1_ := Aside0.mk (hbox); have n2_ := Aside0.mk ((by rw [hg]; exact (below_size (by repeat (first | (with_reducible first | exact HB.out | apply below_alloc | apply pw_below_drewN | apply below_drew1) | exact HB.out))) : w.heap.size ≤ gb138)); have n3_ := Aside0.mk ((by rw [hg]; exact (below_size (by repeat (first | (with_reducible first | exact HB.out | apply below_alloc | apply pw_below_drewN | apply below_drew1) | exact HB.out))) : w.heap.size ≤ gb138)); clear HB; have HB := n0_; have BK138 := n1_; have GW138 := n2_; have GE138 := n3_; clear n0_ n1_ n2_ n3_; clear hb hbox hg; have hcz10_0 : w9.cell? ⟨gb138, 0, none⟩ = some (.int .u64 0) := (blk_cell BK138.out 0).trans rfl; have hcz10_1 : w9.cell? ⟨gb138, 1, none⟩ = some (.int .u64 0) := (blk_cell BK138.out 1).trans rfl; have hcz10_2 : w9.cell? ⟨gb138, 2, none⟩ = some (.int .u64 0) := (blk_cell BK138.out 2).trans rfl; have hcz10_3 : w9.cell? ⟨gb138, 3, none⟩ = some (.string (⟨#[]⟩ : ByteArray)) := (blk_cell BK138.out 3).trans rfl; have hcz10_4 : w9.cell? ⟨gb138, 4, none⟩ = some (.string (⟨#[]⟩ : ByteArray)) := (blk_cell BK138.out 4).trans rfl; have hfz10_0 := blk_frozen BK138.out 0; have hfz10_1 := blk_frozen BK138.out 1; have hfz10_2 := blk_frozen BK138.out 2; have hfz10_3 := blk_frozen BK138.out 3; have hfz10_4 := blk_frozen BK138.out 4) | ((with_reducible refine gate_dst (N := 15) rfl ?_); refine Kd.R_lit Kd.string _ 9 ?hg (N := 15) ?hd (xs := ([(rd_T26 l0 x7_1).f3, (rd_T26 l0 x7_1).f4] : List ByteArray)) (inner := [.string ((rd_T26 l0 x7_1).f3), .string ((rd_T26 l0 x7_1).f4)]) (ok := fun _ => True) (okp := fun _ => True) ?hr ?hp (fun _ hk => hk) trivial (Below.refl _ _) (Nat.le_refl _) (by simp) ?_; (case hd => rfl); (case hg => rfl); (case hr => first | (go_simp; done) | (go_simp; rfl) | (go_simp; simp [u8w]; done)); (case hp => exact (Reps.one (show Kd.M Kd.string _ _ _ ((rd_T26 l0 x7_1).f3) [.string ((rd_T26 l0 x7_1).f3)] from rfl) (Reps.one (show Kd.M Kd.string _ _ _ ((rd_T26 l0 x7_1).f4) [.string ((rd_T26 l0 x7_1).f4)] from rfl) (Reps.none _ _)))); intro v140 w11 ho12 hb hg_ hnew_; clear hg_ hnew_; (first | rw [← Ny139.out] at ho12 | (simp only [Int.reduceToNat] at ho12; rw [← Ny139.out] at ho12)); have n0_ := Aside0.mk (Kd.R_lower ho12 (below_size (by repeat (first | (with_reducible first | exact HB.out | apply below_alloc | apply pw_below_drewN | apply below_drew1 | refine below_set ?_ GE138.out) | exact HB.out)))); have n1_ := Aside0.mk (blk_below (g := gb138) (o := .cells #[.int .u64 ((rd_T26 l0 x7_1).f0), .int .u64 ((rd_T26 l0 x7_1).f1), .int .u64 ((rd_T26 l0 x7_1).f2), .string ((rd_T26 l0 x7_1).f3), .string ((rd_T26 l0 x7_1).f4)] 26 (0, 0)) (by (with_reducible repeat (first | refine blk_drewN ?_ _ | refine blk_drew ?_ | refine blk_alloc ?_ _)); refine blk_put (cs := #[.int .u64 ((rd_T26 l0 x7_1).f0), .int .u64 ((rd_T26 l0 x7_1).f1), .int .u64 ((rd_T26 l0 x7_1).f2), .string ((rd_T26 l0 x7_1).f3), .string (⟨#[]⟩ : ByteArray)]) ?_ 4 _ rfl; (with_reducible repeat (first | refine blk_drewN ?_ _ | refine blk_drew ?_ | refine blk_alloc ?_ _)); refine blk_put (cs := #[.int .u64 ((rd_T26 l0 x7_1).f0), .int .u64 ((rd_T26 l0 x7_1).f1), .int .u64 ((rd_T26 l0 x7_1).f2), .string (⟨#[]⟩ : ByteArray), .string (⟨#[]⟩ : ByteArray)]) ?_ 3 _ rfl; (with_reducible repeat (first | refine blk_drewN ?_ _ | refine blk_drew ?_ | refine blk_alloc ?_ _)); refine blk_put (cs := #[.int .u64 ((rd_T26 l0 x7_1).f0), .int .u64 ((rd_T26 l0 x7_1).f1), .int .u64 0, .string (⟨#[]⟩ : ByteArray), .string (⟨#[]⟩ : ByteArray)]) ?_ 2 _ rfl; (with_reducible repeat (first | refine blk_drewN ?_ _ | refine blk_drew ?_ | refine blk_alloc ?_ _)); refine blk_put (cs := #[.int .u64 ((rd_T26 l0 x7_1).f0), .int .u64 0, .int .u64 0, .string (⟨#[]⟩ : ByteArray), .string (⟨#[]⟩ : ByteArray)]) ?_ 1 _ rfl; (with_reducible repeat (first | refine blk_drewN ?_ _ | refine blk_drew ?_ | refine blk_alloc ?_ _)); refine blk_put (cs := #[.int .u64 0, .int .u64 0, .int .u64 0, .string (⟨#[]⟩ : ByteArray), .string (⟨#[]⟩ : ByteArray)]) ?_ 0 _ rfl; (with_reducible repeat (first | refine blk_drewN ?_ _ | refine blk_drew ?_ | refine blk_alloc ?_ _)); exact BK138.out) hb); have n2_ := Aside0.mk (below_step (by repeat (first | (with_reducible first | exact HB.out | apply below_alloc | apply pw_below_drewN | apply below_drew1 | refine below_set ?_ GE138.out) | exact HB.out)) hb); clear BK138; clear HB; have HO141 := n0_; have BK138 := n1_; have HB := n2_; clear n0_ n1_ n2_; clear hb ho12; obtain ⟨Ao13, co13, eo13⟩ := Kd.R_slice HO141.out; subst eo13) | ((with_reducible refine gate_callee (f := 51) rfl ?_); refine goesL_ (some 16) rfl rfl Tryd.func51 (by kernel_rfl) rfl #[.slice Ao13 y139.length co13] rfl (by (try simp only [List.map_toArray, List.map_cons, List.map_nil]); first | done | rfl | (simp only [List.length_drop, List.length_take]; rfl)) ?_; (with_reducible refine (laws_svShort.calls k1 _ _ y139 true _ ?side1 ?side2 A5.out).mono ?_); (case side1 => repeat (first | exact (Kd.R_reads' HO141.out).2.2 | (with_reducible refine Kd.C_alloc ?_ _) | (with_reducible refine Kd.C_drewN ?_ _) | (with_reducible refine Kd.C_drew ?_))); (case side2 => exact (Kd.R_reads' HO141.out).2.1); rintro e w' ⟨rfl, ⟨nd, rfl⟩⟩; refine ⟨_, rfl, ?_⟩; have hcz14_0 : w11.cell? ⟨gb138, 0, none⟩ = some (.int .u64 ((rd_T26 l0 x7_1).f0)) := (blk_cell BK138.out 0).trans rfl; have hcz14_1 : w11.cell? ⟨gb138, 1, none⟩ = some (.int .u64 ((rd_T26 l0 x7_1).f1)) := (blk_cell BK138.out 1).trans rfl; have hcz14_2 : w11.cell? ⟨gb138, 2, none⟩ = some (.int .u64 ((rd_T26 l0 x7_1).f2)) := (blk_cell BK138.out 2).trans rfl; have hcz14_3 : w11.cell? ⟨gb138, 3, none⟩ = some (.string ((rd_T26 l0 x7_1).f3)) := (blk_cell BK138.out 3).trans rfl; have hcz14_4 : w11.cell? ⟨gb138, 4, none⟩ = some (.string ((rd_T26 l0 x7_1).f4)) := (blk_cell BK138.out 4).trans rfl; have hfz14_0 := blk_frozen BK138.out 0; have hfz14_1 := blk_frozen BK138.out 1; have hfz14_2 := blk_frozen BK138.out 2; have hfz14_3 := blk_frozen BK138.out 3; have hfz14_4 := blk_frozen BK138.out 4) | (go_at_call 52; (with_reducible refine (spec_Good.calls k1 ((rd_T26 l0 x7_1).f0) ((rd_T26 l0 x7_1).f1) ((rd_T26 l0 x7_1).f2) ((rd_T26 l0 x7_1).f3) ((rd_T26 l0 x7_1).f4) true _ A7.out).mono ?_); rintro e w15 ⟨rfl, hb⟩; have n0_ := Aside0.mk (Kd.R_below (by (with_reducible repeat (first | apply Kd.R_alloc | apply Kd.R_drewN | apply Kd.R_drew)); exact HO141.out) hb); have n1_ := Aside0.mk (blk_below (g := gb138) (o := .cells #[.int .u64 ((rd_T26 l0 x7_1).f0), .int .u64 ((rd_T26 l0 x7_1).f1), .int .u64 ((rd_T26 l0 x7_1).f2), .string ((rd_T26 l0 x7_1).f3), .string ((rd_T26 l0 x7_1).f4)] 26 (0, 0)) (by (with_reducible repeat (first | refine blk_drewN ?_ _ | refine blk_drew ?_ | refine blk_alloc ?_ _)); exact BK138.out) hb); have n2_ := Aside0.mk (below_step (by repeat (first | (with_reducible first | exact HB.out | apply below_alloc | apply pw_below_drewN | apply below_drew1 | refine below_set ?_ GE138.out) | exact HB.out)) hb); clear HO141; clear BK138; clear HB; have HO141 := n0_; have BK138 := n1_; have HB := n2_; clear n0_ n1_ n2_; (try clear hb); (try clear hb2); (try clear hk); (try clear hi)))
                go_roundg k1
                case measure => have := HK1.out; omega
                case rel => exact ⟨(wrap64 (x7_1 + 1)), (by first | rfl | (simp; done) | (simp [*]; done)), H', ⟨by have := HK1.out; omega⟩, ⟨by repeat (first | (with_reducible first | exact HB.out | apply below_alloc | apply pw_below_drewN | apply below_drew1 | refine below_set ?_ GE138.out) | exact HB.out)⟩⟩
              · replace c8 := Bool.eq_false_iff.mpr c8
                subst c8
                have H1 : (some false) = some r := by rw [if_neg (show ¬ (false = true) by decide)] at H; exact H
                clear H
                have H := H1
                clear H1
                obtain rfl := Option.some.inj H
                have p137 : 0 ≤ (x7_1 : Int) := of_decide_eq_true (by first | (with_reducible assumption) | assumption)
                have q137 : x7_1 < (l0.length : Int) := of_decide_eq_true (by first | (with_reducible assumption) | assumption)
                obtain ⟨ad137, e137, hx137_0, hx137_1, hx137_2, hx137_3, hx137_4⟩ := at_T26 HR0.out x7_1 p137 q137
                cases e137
                replace hx137_0 := (HB.out.cell (World.block_lt_of_cell? w _ hx137_0)).trans hx137_0
                replace hx137_1 := (HB.out.cell (World.block_lt_of_cell? w _ hx137_1)).trans hx137_1
                replace hx137_2 := (HB.out.cell (World.block_lt_of_cell? w _ hx137_2)).trans hx137_2
                replace hx137_3 := (HB.out.cell (World.block_lt_of_cell? w _ hx137_3)).trans hx137_3
                replace hx137_4 := (HB.out.cell (World.block_lt_of_cell? w _ hx137_4)).trans hx137_4
                replace p137 := eq_true p137
                replace q137 := eq_true q137
                go_wp2_with (first | ((with_reducible refine gate_dst (N := 4) rfl ?_); refine box_event ?hg (N := 4) ?hd (cs := #[.int .u64 0, .int .u64 0, .int .u64 0, .string (⟨#[]⟩ : ByteArray), .string (⟨#[]⟩ : ByteArray)]) (t := 26) ?hr ?_; (case hd => rfl); (case hg => rfl); (case hr => first | (go_simp; done) | (go_simp; rfl) | (go_simp; simp [u8w]; done)); intro gb138 hg w16 hbox hb; have n0_ := Aside0.mk (below_step (by repeat (first | (with_reducible first | exact HB.out | apply below_alloc | apply pw_below_drewN | apply below_drew1) | exact HB.out)) hb); have n1_ := Aside0.mk (hbox); have n2_ := Aside0.mk ((by rw [hg]; exact (below_size (by repeat (first | (with_reducible first | exact HB.out | apply below_alloc | apply pw_below_drewN | apply below_drew1) | exact HB.out))) : w.heap.size ≤ gb138)); have n3_ := Aside0.mk ((by rw [hg]; exact (below_size (by repeat (first | (with_reducible first | exact HB.out | apply below_alloc | apply pw_below_drewN | apply below_drew1) | exact HB.out))) : w.heap.size ≤ gb138)); clear HB; have HB := n0_; have BK138 := n1_; have GW138 := n2_; have GE138 := n3_; clear n0_ n1_ n2_ n3_; clear hb hbox hg; have hcz17_0 : w16.cell? ⟨gb138, 0, none⟩ = some (.int .u64 0) := (blk_cell BK138.out 0).trans rfl; have hcz17_1 : w16.cell? ⟨gb138, 1, none⟩ = some (.int .u64 0) := (blk_cell BK138.out 1).trans rfl; have hcz17_2 : w16.cell? ⟨gb138, 2, none⟩ = some (.int .u64 0) := (blk_cell BK138.out 2).trans rfl; have hcz17_3 : w16.cell? ⟨gb138, 3, none⟩ = some (.string (⟨#[]⟩ : ByteArray)) := (blk_cell BK138.out 3).trans rfl; have hcz17_4 : w16.cell? ⟨gb138, 4, none⟩ = some (.string (⟨#[]⟩ : ByteArray)) := (blk_cell BK138.out 4).trans rfl; have hfz17_0 := blk_frozen BK138.out 0; have hfz17_1 := blk_frozen BK138.out 1; have hfz17_2 := blk_frozen BK138.out 2; have hfz17_3 := blk_frozen BK138.out 3; have hfz17_4 := blk_frozen BK138.out 4) | ((with_reducible refine gate_dst (N := 15) rfl ?_); refine Kd.R_lit Kd.string _ 9 ?hg (N := 15) ?hd (xs := ([(rd_T26 l0 x7_1).f3, (rd_T26 l0 x7_1).f4] : List ByteArray)) (inner := [.string ((rd_T26 l0 x7_1).f3), .string ((rd_T26 l0 x7_1).f4)]) (ok := fun _ => True) (okp := fun _ => True) ?hr ?hp (fun _ hk => hk) trivial (Below.refl _ _) (Nat.le_refl _) (by simp) ?_; (case hd => rfl); (case hg => rfl); (case hr => first | (go_simp; done) | (go_simp; rfl) | (go_simp; simp [u8w]; done)); (case hp => exact (Reps.one (show Kd.M Kd.string _ _ _ ((rd_T26 l0 x7_1).f3) [.string ((rd_T26 l0 x7_1).f3)] from rfl) (Reps.one (show Kd.M Kd.string _ _ _ ((rd_T26 l0 x7_1).f4) [.string ((rd_T26 l0 x7_1).f4)] from rfl) (Reps.none _ _)))); intro v140 w18 ho19 hb hg_ hnew_; clear hg_ hnew_; (first | rw [← Ny139.out] at ho19 | (simp only [Int.reduceToNat] at ho19; rw [← Ny139.out] at ho19)); have n0_ := Aside0.mk (Kd.R_lower ho19 (below_size (by repeat (first | (with_reducible first | exact HB.out | apply below_alloc | apply pw_below_drewN | apply below_drew1 | refine below_set ?_ GE138.out) | exact HB.out)))); have n1_ := Aside0.mk (blk_below (g := gb138) (o := .cells #[.int .u64 ((rd_T26 l0 x7_1).f0), .int .u64 ((rd_T26 l0 x7_1).f1), .int .u64 ((rd_T26 l0 x7_1).f2), .string ((rd_T26 l0 x7_1).f3), .string ((rd_T26 l0 x7_1).f4)] 26 (0, 0)) (by (with_reducible repeat (first | refine blk_drewN ?_ _ | refine blk_drew ?_ | refine blk_alloc ?_ _)); refine blk_put (cs := #[.int .u64 ((rd_T26 l0 x7_1).f0), .int .u64 ((rd_T26 l0 x7_1).f1), .int .u64 ((rd_T26 l0 x7_1).f2), .string ((rd_T26 l0 x7_1).f3), .string (⟨#[]⟩ : ByteArray)]) ?_ 4 _ rfl; (with_reducible repeat (first | refine blk_drewN ?_ _ | refine blk_drew ?_ | refine blk_alloc ?_ _)); refine blk_put (cs := #[.int .u64 ((rd_T26 l0 x7_1).f0), .int .u64 ((rd_T26 l0 x7_1).f1), .int .u64 ((rd_T26 l0 x7_1).f2), .string (⟨#[]⟩ : ByteArray), .string (⟨#[]⟩ : ByteArray)]) ?_ 3 _ rfl; (with_reducible repeat (first | refine blk_drewN ?_ _ | refine blk_drew ?_ | refine blk_alloc ?_ _)); refine blk_put (cs := #[.int .u64 ((rd_T26 l0 x7_1).f0), .int .u64 ((rd_T26 l0 x7_1).f1), .int .u64 0, .string (⟨#[]⟩ : ByteArray), .string (⟨#[]⟩ : ByteArray)]) ?_ 2 _ rfl; (with_reducible repeat (first | refine blk_drewN ?_ _ | refine blk_drew ?_ | refine blk_alloc ?_ _)); refine blk_put (cs := #[.int .u64 ((rd_T26 l0 x7_1).f0), .int .u64 0, .int .u64 0, .string (⟨#[]⟩ : ByteArray), .string (⟨#[]⟩ : ByteArray)]) ?_ 1 _ rfl; (with_reducible repeat (first | refine blk_drewN ?_ _ | refine blk_drew ?_ | refine blk_alloc ?_ _)); refine blk_put (cs := #[.int .u64 0, .int .u64 0, .int .u64 0, .string (⟨#[]⟩ : ByteArray), .string (⟨#[]⟩ : ByteArray)]) ?_ 0 _ rfl; (with_reducible repeat (first | refine blk_drewN ?_ _ | refine blk_drew ?_ | refine blk_alloc ?_ _)); exact BK138.out) hb); have n2_ := Aside0.mk (below_step (by repeat (first | (with_reducible first | exact HB.out | apply below_alloc | apply pw_below_drewN | apply below_drew1 | refine below_set ?_ GE138.out) | exact HB.out)) hb); clear BK138; clear HB; have HO141 := n0_; have BK138 := n1_; have HB := n2_; clear n0_ n1_ n2_; clear hb ho19; obtain ⟨Ao20, co20, eo20⟩ := Kd.R_slice HO141.out; subst eo20) | ((with_reducible refine gate_callee (f := 51) rfl ?_); refine goesL_ (some 16) rfl rfl Tryd.func51 (by kernel_rfl) rfl #[.slice Ao20 y139.length co20] rfl (by (try simp only [List.map_toArray, List.map_cons, List.map_nil]); first | done | rfl | (simp only [List.length_drop, List.length_take]; rfl)) ?_; (with_reducible refine (laws_svShort.calls k1 _ _ y139 true _ ?side1 ?side2 A5.out).mono ?_); (case side1 => repeat (first | exact (Kd.R_reads' HO141.out).2.2 | (with_reducible refine Kd.C_alloc ?_ _) | (with_reducible refine Kd.C_drewN ?_ _) | (with_reducible refine Kd.C_drew ?_))); (case side2 => exact (Kd.R_reads' HO141.out).2.1); rintro e w' ⟨rfl, ⟨nd, rfl⟩⟩; refine ⟨_, rfl, ?_⟩; have hcz21_0 : w18.cell? ⟨gb138, 0, none⟩ = some (.int .u64 ((rd_T26 l0 x7_1).f0)) := (blk_cell BK138.out 0).trans rfl; have hcz21_1 : w18.cell? ⟨gb138, 1, none⟩ = some (.int .u64 ((rd_T26 l0 x7_1).f1)) := (blk_cell BK138.out 1).trans rfl; have hcz21_2 : w18.cell? ⟨gb138, 2, none⟩ = some (.int .u64 ((rd_T26 l0 x7_1).f2)) := (blk_cell BK138.out 2).trans rfl; have hcz21_3 : w18.cell? ⟨gb138, 3, none⟩ = some (.string ((rd_T26 l0 x7_1).f3)) := (blk_cell BK138.out 3).trans rfl; have hcz21_4 : w18.cell? ⟨gb138, 4, none⟩ = some (.string ((rd_T26 l0 x7_1).f4)) := (blk_cell BK138.out 4).trans rfl; have hfz21_0 := blk_frozen BK138.out 0; have hfz21_1 := blk_frozen BK138.out 1; have hfz21_2 := blk_frozen BK138.out 2; have hfz21_3 := blk_frozen BK138.out 3; have hfz21_4 := blk_frozen BK138.out 4) | (go_at_call 52; (with_reducible refine (spec_Good.calls k1 ((rd_T26 l0 x7_1).f0) ((rd_T26 l0 x7_1).f1) ((rd_T26 l0 x7_1).f2) ((rd_T26 l0 x7_1).f3) ((rd_T26 l0 x7_1).f4) false _ A7.out).mono ?_); rintro e w22 ⟨rfl, hb⟩; have n0_ := Aside0.mk (Kd.R_below (by (with_reducible repeat (first | apply Kd.R_alloc | apply Kd.R_drewN | apply Kd.R_drew)); exact HO141.out) hb); have n1_ := Aside0.mk (blk_below (g := gb138) (o := .cells #[.int .u64 ((rd_T26 l0 x7_1).f0), .int .u64 ((rd_T26 l0 x7_1).f1), .int .u64 ((rd_T26 l0 x7_1).f2), .string ((rd_T26 l0 x7_1).f3), .string ((rd_T26 l0 x7_1).f4)] 26 (0, 0)) (by (with_reducible repeat (first | refine blk_drewN ?_ _ | refine blk_drew ?_ | refine blk_alloc ?_ _)); exact BK138.out) hb); have n2_ := Aside0.mk (below_step (by repeat (first | (with_reducible first | exact HB.out | apply below_alloc | apply pw_below_drewN | apply below_drew1 | refine below_set ?_ GE138.out) | exact HB.out)) hb); clear HO141; clear BK138; clear HB; have HO141 := n0_; have BK138 := n1_; have HB := n2_; clear n0_ n1_ n2_; (try clear hb); (try clear hb2); (try clear hk); (try clear hi)))
                go_ret
                exact ⟨by first | rfl | (simp [errW_none, errW_some] <;> rfl) | (simp [*, errW_none, errW_some] <;> rfl) | (simp [bneNil]; done), by repeat (first | (with_reducible first | exact HB.out | apply below_alloc | apply pw_below_drewN | apply below_drew1 | refine below_set ?_ GE138.out) | exact HB.out)⟩
            · replace c6 := Bool.eq_false_iff.mpr c6
              subst c6
              have H1 : (some false) = some r := by rw [if_neg (show ¬ (false = true) by decide)] at H; exact H
              clear H
              have H := H1
              clear H1
              obtain rfl := Option.some.inj H
              have p137 : 0 ≤ (x7_1 : Int) := of_decide_eq_true (by first | (with_reducible assumption) | assumption)
              have q137 : x7_1 < (l0.length : Int) := of_decide_eq_true (by first | (with_reducible assumption) | assumption)
              obtain ⟨ad137, e137, hx137_0, hx137_1, hx137_2, hx137_3, hx137_4⟩ := at_T26 HR0.out x7_1 p137 q137
              cases e137
              replace hx137_0 := (HB.out.cell (World.block_lt_of_cell? w _ hx137_0)).trans hx137_0
              replace hx137_1 := (HB.out.cell (World.block_lt_of_cell? w _ hx137_1)).trans hx137_1
              replace hx137_2 := (HB.out.cell (World.block_lt_of_cell? w _ hx137_2)).trans hx137_2
              replace hx137_3 := (HB.out.cell (World.block_lt_of_cell? w _ hx137_3)).trans hx137_3
              replace hx137_4 := (HB.out.cell (World.block_lt_of_cell? w _ hx137_4)).trans hx137_4
              replace p137 := eq_true p137
              replace q137 := eq_true q137
              go_wp2_with (first | ((with_reducible refine gate_dst (N := 4) rfl ?_); refine box_event ?hg (N := 4) ?hd (cs := #[.int .u64 0, .int .u64 0, .int .u64 0, .string (⟨#[]⟩ : ByteArray), .string (⟨#[]⟩ : ByteArray)]) (t := 26) ?hr ?_; (case hd => rfl); (case hg => rfl); (case hr => first | (go_simp; done) | (go_simp; rfl) | (go_simp; simp [u8w]; done)); intro gb138 hg w23 hbox hb; have n0_ := Aside0.mk (below_step (by repeat (first | (with_reducible first | exact HB.out | apply below_alloc | apply pw_below_drewN | apply below_drew1) | exact HB.out)) hb); have n1_ := Aside0.mk (hbox); have n2_ := Aside0.mk ((by rw [hg]; exact (below_size (by repeat (first | (with_reducible first | exact HB.out | apply below_alloc | apply pw_below_drewN | apply below_drew1) | exact HB.out))) : w.heap.size ≤ gb138)); have n3_ := Aside0.mk ((by rw [hg]; exact (below_size (by repeat (first | (with_reducible first | exact HB.out | apply below_alloc | apply pw_below_drewN | apply below_drew1) | exact HB.out))) : w.heap.size ≤ gb138)); clear HB; have HB := n0_; have BK138 := n1_; have GW138 := n2_; have GE138 := n3_; clear n0_ n1_ n2_ n3_; clear hb hbox hg; have hcz24_0 : w23.cell? ⟨gb138, 0, none⟩ = some (.int .u64 0) := (blk_cell BK138.out 0).trans rfl; have hcz24_1 : w23.cell? ⟨gb138, 1, none⟩ = some (.int .u64 0) := (blk_cell BK138.out 1).trans rfl; have hcz24_2 : w23.cell? ⟨gb138, 2, none⟩ = some (.int .u64 0) := (blk_cell BK138.out 2).trans rfl; have hcz24_3 : w23.cell? ⟨gb138, 3, none⟩ = some (.string (⟨#[]⟩ : ByteArray)) := (blk_cell BK138.out 3).trans rfl; have hcz24_4 : w23.cell? ⟨gb138, 4, none⟩ = some (.string (⟨#[]⟩ : ByteArray)) := (blk_cell BK138.out 4).trans rfl; have hfz24_0 := blk_frozen BK138.out 0; have hfz24_1 := blk_frozen BK138.out 1; have hfz24_2 := blk_frozen BK138.out 2; have hfz24_3 := blk_frozen BK138.out 3; have hfz24_4 := blk_frozen BK138.out 4) | ((with_reducible refine gate_dst (N := 15) rfl ?_); refine Kd.R_lit Kd.string _ 9 ?hg (N := 15) ?hd (xs := ([(rd_T26 l0 x7_1).f3, (rd_T26 l0 x7_1).f4] : List ByteArray)) (inner := [.string ((rd_T26 l0 x7_1).f3), .string ((rd_T26 l0 x7_1).f4)]) (ok := fun _ => True) (okp := fun _ => True) ?hr ?hp (fun _ hk => hk) trivial (Below.refl _ _) (Nat.le_refl _) (by simp) ?_; (case hd => rfl); (case hg => rfl); (case hr => first | (go_simp; done) | (go_simp; rfl) | (go_simp; simp [u8w]; done)); (case hp => exact (Reps.one (show Kd.M Kd.string _ _ _ ((rd_T26 l0 x7_1).f3) [.string ((rd_T26 l0 x7_1).f3)] from rfl) (Reps.one (show Kd.M Kd.string _ _ _ ((rd_T26 l0 x7_1).f4) [.string ((rd_T26 l0 x7_1).f4)] from rfl) (Reps.none _ _)))); intro v140 w25 ho26 hb hg_ hnew_; clear hg_ hnew_; (first | rw [← Ny139.out] at ho26 | (simp only [Int.reduceToNat] at ho26; rw [← Ny139.out] at ho26)); have n0_ := Aside0.mk (Kd.R_lower ho26 (below_size (by repeat (first | (with_reducible first | exact HB.out | apply below_alloc | apply pw_below_drewN | apply below_drew1 | refine below_set ?_ GE138.out) | exact HB.out)))); have n1_ := Aside0.mk (blk_below (g := gb138) (o := .cells #[.int .u64 ((rd_T26 l0 x7_1).f0), .int .u64 ((rd_T26 l0 x7_1).f1), .int .u64 ((rd_T26 l0 x7_1).f2), .string ((rd_T26 l0 x7_1).f3), .string ((rd_T26 l0 x7_1).f4)] 26 (0, 0)) (by (with_reducible repeat (first | refine blk_drewN ?_ _ | refine blk_drew ?_ | refine blk_alloc ?_ _)); refine blk_put (cs := #[.int .u64 ((rd_T26 l0 x7_1).f0), .int .u64 ((rd_T26 l0 x7_1).f1), .int .u64 ((rd_T26 l0 x7_1).f2), .string ((rd_T26 l0 x7_1).f3), .string (⟨#[]⟩ : ByteArray)]) ?_ 4 _ rfl; (with_reducible repeat (first | refine blk_drewN ?_ _ | refine blk_drew ?_ | refine blk_alloc ?_ _)); refine blk_put (cs := #[.int .u64 ((rd_T26 l0 x7_1).f0), .int .u64 ((rd_T26 l0 x7_1).f1), .int .u64 ((rd_T26 l0 x7_1).f2), .string (⟨#[]⟩ : ByteArray), .string (⟨#[]⟩ : ByteArray)]) ?_ 3 _ rfl; (with_reducible repeat (first | refine blk_drewN ?_ _ | refine blk_drew ?_ | refine blk_alloc ?_ _)); refine blk_put (cs := #[.int .u64 ((rd_T26 l0 x7_1).f0), .int .u64 ((rd_T26 l0 x7_1).f1), .int .u64 0, .string (⟨#[]⟩ : ByteArray), .string (⟨#[]⟩ : ByteArray)]) ?_ 2 _ rfl; (with_reducible repeat (first | refine blk_drewN ?_ _ | refine blk_drew ?_ | refine blk_alloc ?_ _)); refine blk_put (cs := #[.int .u64 ((rd_T26 l0 x7_1).f0), .int .u64 0, .int .u64 0, .string (⟨#[]⟩ : ByteArray), .string (⟨#[]⟩ : ByteArray)]) ?_ 1 _ rfl; (with_reducible repeat (first | refine blk_drewN ?_ _ | refine blk_drew ?_ | refine blk_alloc ?_ _)); refine blk_put (cs := #[.int .u64 0, .int .u64 0, .int .u64 0, .string (⟨#[]⟩ : ByteArray), .string (⟨#[]⟩ : ByteArray)]) ?_ 0 _ rfl; (with_reducible repeat (first | refine blk_drewN ?_ _ | refine blk_drew ?_ | refine blk_alloc ?_ _)); exact BK138.out) hb); have n2_ := Aside0.mk (below_step (by repeat (first | (with_reducible first | exact HB.out | apply below_alloc | apply pw_below_drewN | apply below_drew1 | refine below_set ?_ GE138.out) | exact HB.out)) hb); clear BK138; clear HB; have HO141 := n0_; have BK138 := n1_; have HB := n2_; clear n0_ n1_ n2_; clear hb ho26; obtain ⟨Ao27, co27, eo27⟩ := Kd.R_slice HO141.out; subst eo27) | ((with_reducible refine gate_callee (f := 51) rfl ?_); refine goesL_ (some 16) rfl rfl Tryd.func51 (by kernel_rfl) rfl #[.slice Ao27 y139.length co27] rfl (by (try simp only [List.map_toArray, List.map_cons, List.map_nil]); first | done | rfl | (simp only [List.length_drop, List.length_take]; rfl)) ?_; (with_reducible refine (laws_svShort.calls k1 _ _ y139 false _ ?side1 ?side2 A5.out).mono ?_); (case side1 => repeat (first | exact (Kd.R_reads' HO141.out).2.2 | (with_reducible refine Kd.C_alloc ?_ _) | (with_reducible refine Kd.C_drewN ?_ _) | (with_reducible refine Kd.C_drew ?_))); (case side2 => exact (Kd.R_reads' HO141.out).2.1); rintro e w' ⟨rfl, ⟨nd, rfl⟩⟩; refine ⟨_, rfl, ?_⟩))
              go_ret
              exact ⟨by first | rfl | (simp [errW_none, errW_some] <;> rfl) | (simp [*, errW_none, errW_some] <;> rfl) | (simp [bneNil]; done), by repeat (first | (with_reducible first | exact HB.out | apply below_alloc | apply pw_below_drewN | apply below_drew1 | refine below_set ?_ GE138.out) | exact HB.out)⟩
          · rw [if_neg c4] at H
            exact absurd H (by simp)
        · rw [if_neg c3] at H
          exact absurd H (by simp)
      · rw [if_neg c2] at H
        have c2b0 : decide (x7_1 < (l0.length : Int)) = false := decide_eq_false c2
        clear c2
        obtain rfl := Option.some.inj H
        go_wp2
        go_ret
        exact ⟨by first | rfl | (simp [errW_none, errW_some] <;> rfl) | (simp [*, errW_none, errW_some] <;> rfl) | (simp [bneNil]; done), by repeat (first | (with_reducible first | exact HB.out | apply below_alloc | apply pw_below_drewN | apply below_drew1) | exact HB.out)⟩

def spec_Least.f (a0_0 : Int) (a0_1 : Int) (a0_2 : Int) (a0_3 : Int) (a0_4 : Int) (a0_5 : ByteArray) : Option (Int × Int × Int × ByteArray × ByteArray) := some (a0_2, a0_3, a0_4, a0_5, (⟨#[]⟩ : ByteArray))

set_option maxHeartbeats 80000000 in
set_option maxRecDepth 100000 in
theorem spec_Least.calls (a0_0 : Int) (a0_1 : Int) (a0_2 : Int) (a0_3 : Int) (a0_4 : Int) (a0_5 : ByteArray) (r1 : Int) (r2 : Int) (r3 : Int) (r4 : ByteArray) (r5 : ByteArray) (w : World) (h : spec_Least.f a0_0 a0_1 a0_2 a0_3 a0_4 a0_5 = some (r1, r2, r3, r4, r5)) :
    Calls Tryd.prog 56 #[.agg #[.int .i64 a0_0, .int .i64 a0_1, .int .u64 a0_2, .int .u64 a0_3, .int .u64 a0_4, .string a0_5]] w fun e w' => e = .returned (.agg #[.int .u64 r1, .int .u64 r2, .int .u64 r3, .string r4, .string r5]) ∧ Below w.heap.size w w' := by
  have hu24 := Tryd.underlying24
  have hu26 := Tryd.underlying26
  have HB := Aside0.mk (Below.refl w.heap.size w)
  have H : (some (a0_2, a0_3, a0_4, a0_5, (⟨#[]⟩ : ByteArray))) = some (r1, r2, r3, r4, r5) := h
  clear h
  simp only [Option.some.injEq, Prod.mk.injEq] at H
  obtain ⟨rfl, rfl, rfl, rfl, rfl⟩ := H
  go_enter Tryd.func56, Tryd.ntmps56
  go_wp2_with (first | ((with_reducible refine gate_dst (N := 1) rfl ?_); refine box_event ?hg (N := 1) ?hd (cs := #[.int .i64 a0_0, .int .i64 a0_1, .int .u64 a0_2, .int .u64 a0_3, .int .u64 a0_4, .string a0_5]) (t := 24) ?hr ?_; (case hd => rfl); (case hg => rfl); (case hr => first | (go_simp; done) | (go_simp; rfl) | (go_simp; simp [u8w]; done)); intro gb148 hg w2 hbox hb; have n0_ := Aside0.mk (below_step (by repeat (first | (with_reducible first | exact HB.out | apply below_alloc | apply pw_below_drewN | apply below_drew1) | exact HB.out)) hb); have n1_ := Aside0.mk (hbox); have n2_ := Aside0.mk ((by rw [hg]; exact (below_size (by repeat (first | (with_reducible first | exact HB.out | apply below_alloc | apply pw_below_drewN | apply below_drew1) | exact HB.out))) : w.heap.size ≤ gb148)); have n3_ := Aside0.mk ((by rw [hg]; exact (below_size (by repeat (first | (with_reducible first | exact HB.out | apply below_alloc | apply pw_below_drewN | apply below_drew1) | exact HB.out))) : w.heap.size ≤ gb148)); clear HB; have HB := n0_; have BK148 := n1_; have GW148 := n2_; have GE148 := n3_; clear n0_ n1_ n2_ n3_; clear hb hbox hg) | ((with_reducible refine gate_dst (N := 2) rfl ?_); refine box_event ?hg (N := 2) ?hd (cs := #[.int .u64 0, .int .u64 0, .int .u64 0, .string (⟨#[]⟩ : ByteArray), .string (⟨#[]⟩ : ByteArray)]) (t := 26) ?hr ?_; (case hd => rfl); (case hg => rfl); (case hr => first | (go_simp; done) | (go_simp; rfl) | (go_simp; simp [u8w]; done)); intro gb149 hg w3 hbox hb; have n0_ := Aside0.mk (blk_below (g := gb148) (o := .cells #[.int .i64 a0_0, .int .i64 a0_1, .int .u64 a0_2, .int .u64 a0_3, .int .u64 a0_4, .string a0_5] 24 (0, 0)) (by (with_reducible repeat (first | refine blk_drewN ?_ _ | refine blk_drew ?_ | refine blk_alloc ?_ _)); exact BK148.out) hb); have n1_ := Aside0.mk (below_step (by repeat (first | (with_reducible first | exact HB.out | apply below_alloc | apply pw_below_drewN | apply below_drew1 | refine below_set ?_ GE148.out) | exact HB.out)) hb); have n2_ := Aside0.mk (hbox); have n3_ := Aside0.mk ((by rw [hg]; exact (below_size (by repeat (first | (with_reducible first | exact HB.out | apply below_alloc | apply pw_below_drewN | apply below_drew1 | refine below_set ?_ GE148.out) | exact HB.out))) : w.heap.size ≤ gb149)); have n4_ := Aside0.mk ((by rw [hg]; exact (below_size (by repeat (first | (with_reducible first | exact HB.out | apply below_alloc | apply pw_below_drewN | apply below_drew1 | refine below_set ?_ GE148.out) | exact HB.out))) : w.heap.size ≤ gb149)); have n5_ := Aside0.mk ((by rw [hg]; exact Nat.ne_of_lt (blk_lt (g := gb148) (o := .cells #[.int .i64 a0_0, .int .i64 a0_1, .int .u64 a0_2, .int .u64 a0_3, .int .u64 a0_4, .string a0_5] 24 (0, 0)) (by (with_reducible repeat (first | refine blk_drewN ?_ _ | refine blk_drew ?_ | refine blk_alloc ?_ _)); exact BK148.out)) : gb148 ≠ gb149)); have n6_ := Aside0.mk ((by rw [hg]; exact Nat.ne_of_gt (blk_lt (g := gb148) (o := .cells #[.int .i64 a0_0, .int .i64 a0_1, .int .u64 a0_2, .int .u64 a0_3, .int .u64 a0_4, .string a0_5] 24 (0, 0)) (by (with_reducible repeat (first | refine blk_drewN ?_ _ | refine blk_drew ?_ | refine blk_alloc ?_ _)); exact BK148.out)) : gb149 ≠ gb148)); clear BK148; clear HB; have BK148 := n0_; have HB := n1_; have BK149 := n2_; have GW149 := n3_; have GE149 := n4_; have NB148_149 := n5_; have NB149_148 := n6_; clear n0_ n1_ n2_ n3_ n4_ n5_ n6_; clear hb hbox hg; have hnb4 := NB148_149.out; have hnc4 := NB149_148.out; have hcz5_0 : w3.cell? ⟨gb148, 0, none⟩ = some (.int .i64 a0_0) := (blk_cell BK148.out 0).trans rfl; have hcz5_1 : w3.cell? ⟨gb148, 1, none⟩ = some (.int .i64 a0_1) := (blk_cell BK148.out 1).trans rfl; have hcz5_2 : w3.cell? ⟨gb148, 2, none⟩ = some (.int .u64 a0_2) := (blk_cell BK148.out 2).trans rfl; have hcz5_3 : w3.cell? ⟨gb148, 3, none⟩ = some (.int .u64 a0_3) := (blk_cell BK148.out 3).trans rfl; have hcz5_4 : w3.cell? ⟨gb148, 4, none⟩ = some (.int .u64 a0_4) := (blk_cell BK148.out 4).trans rfl; have hcz5_5 : w3.cell? ⟨gb148, 5, none⟩ = some (.string a0_5) := (blk_cell BK148.out 5).trans rfl; have hfz5_0 := blk_frozen BK148.out 0; have hfz5_1 := blk_frozen BK148.out 1; have hfz5_2 := blk_frozen BK148.out 2; have hfz5_3 := blk_frozen BK148.out 3; have hfz5_4 := blk_frozen BK148.out 4; have hfz5_5 := blk_frozen BK148.out 5; have hcz6_0 : w3.cell? ⟨gb149, 0, none⟩ = some (.int .u64 0) := (blk_cell BK149.out 0).trans rfl; have hcz6_1 : w3.cell? ⟨gb149, 1, none⟩ = some (.int .u64 0) := (blk_cell BK149.out 1).trans rfl; have hcz6_2 : w3.cell? ⟨gb149, 2, none⟩ = some (.int .u64 0) := (blk_cell BK149.out 2).trans rfl; have hcz6_3 : w3.cell? ⟨gb149, 3, none⟩ = some (.string (⟨#[]⟩ : ByteArray)) := (blk_cell BK149.out 3).trans rfl; have hcz6_4 : w3.cell? ⟨gb149, 4, none⟩ = some (.string (⟨#[]⟩ : ByteArray)) := (blk_cell BK149.out 4).trans rfl; have hfz6_0 := blk_frozen BK149.out 0; have hfz6_1 := blk_frozen BK149.out 1; have hfz6_2 := blk_frozen BK149.out 2; have hfz6_3 := blk_frozen BK149.out 3; have hfz6_4 := blk_frozen BK149.out 4))
  refine bodyPost_ret (results_cell_row rfl _ _ gb149 26 #[.int .u64 a0_2, .int .u64 a0_3, .int .u64 a0_4, .string a0_5, .string (⟨#[]⟩ : ByteArray)] (0, 0) _ rfl (by (with_reducible repeat (first | refine blk_drewN ?_ _ | refine blk_drew ?_ | refine blk_alloc ?_ _)); refine blk_put (cs := #[.int .u64 a0_2, .int .u64 a0_3, .int .u64 a0_4, .string a0_5, .string (⟨#[]⟩ : ByteArray)]) ?_ 4 _ rfl; (with_reducible repeat (first | refine blk_drewN ?_ _ | refine blk_drew ?_ | refine blk_alloc ?_ _)); refine blk_put (cs := #[.int .u64 a0_2, .int .u64 a0_3, .int .u64 a0_4, .string (⟨#[]⟩ : ByteArray), .string (⟨#[]⟩ : ByteArray)]) ?_ 3 _ rfl; (with_reducible repeat (first | refine blk_drewN ?_ _ | refine blk_drew ?_ | refine blk_alloc ?_ _)); refine blk_put (cs := #[.int .u64 a0_2, .int .u64 a0_3, .int .u64 0, .string (⟨#[]⟩ : ByteArray), .string (⟨#[]⟩ : ByteArray)]) ?_ 2 _ rfl; (with_reducible repeat (first | refine blk_drewN ?_ _ | refine blk_drew ?_ | refine blk_alloc ?_ _)); refine blk_put (cs := #[.int .u64 a0_2, .int .u64 0, .int .u64 0, .string (⟨#[]⟩ : ByteArray), .string (⟨#[]⟩ : ByteArray)]) ?_ 1 _ rfl; (with_reducible repeat (first | refine blk_drewN ?_ _ | refine blk_drew ?_ | refine blk_alloc ?_ _)); refine blk_put (cs := #[.int .u64 0, .int .u64 0, .int .u64 0, .string (⟨#[]⟩ : ByteArray), .string (⟨#[]⟩ : ByteArray)]) ?_ 0 _ rfl; (with_reducible repeat (first | refine blk_drewN ?_ _ | refine blk_drew ?_ | refine blk_alloc ?_ _)); exact BK149.out) Tryd.underlying26 rfl (by kernel_rfl)) rfl ?_
  exact ⟨by first | rfl | (simp [errW_none, errW_some] <;> rfl) | (simp [*, errW_none, errW_some] <;> rfl) | (simp [bneNil]; done), by repeat (first | (with_reducible first | exact HB.out | apply below_alloc | apply pw_below_drewN | apply below_drew1 | refine below_set ?_ GE148.out | refine below_set ?_ GE149.out) | exact HB.out)⟩

def spec_order.f (a0 : Int) (a1 : Int) : Option (Int) := if a0 < a1 then (some (-1)) else (if a0 > a1 then (some 1) else (some 0))

set_option maxHeartbeats 80000000 in
set_option maxRecDepth 100000 in
theorem spec_order.calls (a0 : Int) (a1 : Int) (r : Int) (w : World) (h : spec_order.f a0 a1 = some r) :
    Calls Tryd.prog 71 #[.int .u64 a0, .int .u64 a1] w fun e w' => e = .returned (.int .i64 r) ∧ Drawn0 w w' := by
  have H : (if a0 < a1 then (some (-1)) else (if a0 > a1 then (some 1) else (some 0))) = some r := h
  clear h
  by_cases c3 : a0 < a1
  · rw [if_pos c3] at H
    have c3b0 : decide (a0 < a1) = true := decide_eq_true c3
    clear c3
    obtain rfl := Option.some.inj H
    go_enter Tryd.func71, Tryd.ntmps71
    go_wp2
    go_ret
    exact ⟨by first | rfl | (simp; done) | (simp [*]; done) | (simp [bneNil]; done), by repeat (first | exact Drawn0.refl _ | apply Drawn0.step)⟩
  · rw [if_neg c3] at H
    have c3b0 : decide (a0 < a1) = false := decide_eq_false c3
    clear c3
    by_cases c4 : a0 > a1
    · rw [if_pos c4] at H
      have c4b0 : decide (a1 < a0) = true := decide_eq_true c4
      clear c4
      obtain rfl := Option.some.inj H
      go_enter Tryd.func71, Tryd.ntmps71
      go_wp2
      go_ret
      exact ⟨by first | rfl | (simp; done) | (simp [*]; done) | (simp [bneNil]; done), by repeat (first | exact Drawn0.refl _ | apply Drawn0.step)⟩
    · rw [if_neg c4] at H
      have c4b0 : decide (a1 < a0) = false := decide_eq_false c4
      clear c4
      obtain rfl := Option.some.inj H
      go_enter Tryd.func71, Tryd.ntmps71
      go_wp2
      go_ret
      exact ⟨by first | rfl | (simp; done) | (simp [*]; done) | (simp [bneNil]; done), by repeat (first | exact Drawn0.refl _ | apply Drawn0.step)⟩

def spec_ComparePart.j0 : Nat → ByteArray → ByteArray → Bool → Option (Int)
  | 0, _, _, _ => none
  | k + 1, x0, x1, x9 => if x9 = true then ((spec_order.f (IntKind.u64.wrap ((x0.size : Int))) (IntKind.u64.wrap ((x1.size : Int)))).bind fun t152 => (some t152)) else ((spec_Digits.f k x0).bind fun t153 => ((spec_Digits.f k x1).bind fun t154 => (if (t153 != t154) = true then ((spec_Digits.f k x0).bind fun t155 => (if t155 = true then (some (-1)) else (some 1))) else (if (Op.bytesLess x0.toList x1.toList) = true then (some (-1)) else (some 1)))))

def spec_ComparePart.f (k : Nat) (a0 : ByteArray) (a1 : ByteArray) : Option (Int) := if a0.toList = a1.toList then (some 0) else ((spec_Digits.f k a0).bind fun t150 => (if t150 = true then ((spec_Digits.f k a1).bind fun t151 => (if t151 = true then (spec_ComparePart.j0 k a0 a1 ((a0.size : Int) != (a1.size : Int))) else (spec_ComparePart.j0 k a0 a1 false))) else (spec_ComparePart.j0 k a0 a1 false)))

theorem spec_ComparePart.mono_l : ∀ k, (∀ y0 y1 y2, LeO (spec_ComparePart.j0 k y0 y1 y2) (spec_ComparePart.j0 (k + 1) y0 y1 y2))
  | 0 => fun _ _ _ r h => by simp [spec_ComparePart.j0] at h
  | k + 1 => by
    have ih0 := spec_ComparePart.mono_l k
    · intro y0 y1 y2
      unfold spec_ComparePart.j0
      repeat' first
      | (with_reducible exact ih0 _ _ _)
      | (with_reducible exact spec_Digits.mono _ _)
      | (with_reducible exact LeO.refl _)
      | (with_reducible exact LeO.none _)
      | (with_reducible refine LeO.ite ?_ ?_)
      | (with_reducible refine LeO.bind ?_ (fun _ => ?_))
      | exact ih0 _ _ _
      | exact spec_Digits.mono _ _
      | exact LeO.none _
      | refine LeO.ite ?_ ?_
      | refine LeO.bind ?_ (fun _ => ?_)

theorem spec_ComparePart.mono : ∀ a0 a1 k, LeO (spec_ComparePart.f k a0 a1) (spec_ComparePart.f (k + 1) a0 a1) := by
  intro a0 a1 k
  have ih0 := spec_ComparePart.mono_l k
  unfold spec_ComparePart.f
  repeat' first
      | (with_reducible exact ih0 _ _ _)
      | (with_reducible exact spec_Digits.mono _ _)
      | (with_reducible exact LeO.refl _)
      | (with_reducible exact LeO.none _)
      | (with_reducible refine LeO.ite ?_ ?_)
      | (with_reducible refine LeO.bind ?_ (fun _ => ?_))
      | exact ih0 _ _ _
      | exact spec_Digits.mono _ _
      | exact LeO.none _
      | refine LeO.ite ?_ ?_
      | refine LeO.bind ?_ (fun _ => ?_)

set_option maxHeartbeats 80000000 in
set_option maxRecDepth 100000 in
theorem spec_ComparePart.calls (k : Nat) (a0 : ByteArray) (a1 : ByteArray) (r : Int) (w : World) (h : spec_ComparePart.f k a0 a1 = some r) :
    Calls Tryd.prog 106 #[.string a0, .string a1] w fun e w' => e = .returned (.int .i64 r) ∧ Drawn0 w w' := by
  have H : (if a0.toList = a1.toList then (some 0) else ((spec_Digits.f k a0).bind fun t150 => (if t150 = true then ((spec_Digits.f k a1).bind fun t151 => (if t151 = true then (spec_ComparePart.j0 k a0 a1 ((a0.size : Int) != (a1.size : Int))) else (spec_ComparePart.j0 k a0 a1 false))) else (spec_ComparePart.j0 k a0 a1 false)))) = some r := h
  clear h
  by_cases c3 : a0.toList = a1.toList
  · rw [if_pos c3] at H
    have c3b0 : (a0.toList == a1.toList) = true := beq_iff_eq.mpr c3
    have c3b1 : (a0.toList != a1.toList) = false := bne_eq_false_iff_eq.mpr c3
    clear c3
    obtain rfl := Option.some.inj H
    go_enter Tryd.func106, Tryd.ntmps106
    go_wp2
    go_ret
    exact ⟨by first | rfl | (simp; done) | (simp [*]; done) | (simp [bneNil]; done), by repeat (first | exact Drawn0.refl _ | apply Drawn0.step)⟩
  · rw [if_neg c3] at H
    have c3b0 : (a0.toList == a1.toList) = false := beq_eq_false_iff_ne.mpr c3
    have c3b1 : (a0.toList != a1.toList) = true := bne_iff_ne.mpr c3
    have HC4 := Aside0.mk H
    clear H
    go_enter Tryd.func106, Tryd.ntmps106
    go_upto_region 3 with (fail)
    go_cut [9] (fun v9 wc => ∃ (kq : Nat) (x9_3 : Bool), v9 = .bool x9_3 ∧ Aside0 (spec_ComparePart.j0 kq a0 a1 x9_3 = some r) ∧ Aside0 (kq ≤ k) ∧ Drawn0 w wc)
    case first =>
      have H := HC4.out
      clear HC4
      replace H := Option.bind_eq_some_iff.mp H
      obtain ⟨t150, A50, H⟩ := H
      replace H : (if t150 = true then ((spec_Digits.f k a1).bind fun t151 => (if t151 = true then (spec_ComparePart.j0 k a0 a1 ((a0.size : Int) != (a1.size : Int))) else (spec_ComparePart.j0 k a0 a1 false))) else (spec_ComparePart.j0 k a0 a1 false)) = some r := H
      have A5 := Aside0.mk A50
      clear A50
      by_cases c6 : t150 = true
      · subst c6
        have H1 : ((spec_Digits.f k a1).bind fun t151 => (if t151 = true then (spec_ComparePart.j0 k a0 a1 ((a0.size : Int) != (a1.size : Int))) else (spec_ComparePart.j0 k a0 a1 false))) = some r := by rw [if_pos rfl] at H; exact H
        clear H
        have H := H1
        clear H1
        replace H := Option.bind_eq_some_iff.mp H
        obtain ⟨t151, A70, H⟩ := H
        replace H : (if t151 = true then (spec_ComparePart.j0 k a0 a1 ((a0.size : Int) != (a1.size : Int))) else (spec_ComparePart.j0 k a0 a1 false)) = some r := H
        have A7 := Aside0.mk A70
        clear A70
        by_cases c8 : t151 = true
        · subst c8
          have H1 : (spec_ComparePart.j0 k a0 a1 ((a0.size : Int) != (a1.size : Int))) = some r := by rw [if_pos rfl] at H; exact H
          clear H
          have H := H1
          clear H1
          have H' := Aside0.mk H
          clear H
          go_wp2_with (first | ((with_reducible refine gate_callee (f := 79) rfl ?_); refine goesL_ (some 11) rfl rfl Tryd.func79 (by kernel_rfl) rfl #[.string a0] rfl (by (try simp only [List.map_toArray, List.map_cons, List.map_nil]); first | done | rfl | (simp only [List.length_drop, List.length_take]; rfl)) ?_; (with_reducible refine (spec_Digits.calls k a0 true _ A5.out).mono ?_); rintro e w' ⟨rfl, ⟨nd, rfl⟩⟩; refine ⟨_, rfl, ?_⟩) | (go_at_call 79; (with_reducible refine (spec_Digits.calls k a1 true _ A7.out).mono ?_); rintro e w' ⟨rfl, ⟨nd, rfl⟩⟩))
          go_meet
          case rel => exact ⟨_, (((a0.size : Int) != (a1.size : Int))), (by first | rfl | (simp; done) | (simp [*]; done)), H', ⟨by first | omega | exact Nat.le_refl _⟩, by repeat (first | exact Drawn0.refl _ | apply Drawn0.step)⟩
        · replace c8 := Bool.eq_false_iff.mpr c8
          subst c8
          have H1 : (spec_ComparePart.j0 k a0 a1 false) = some r := by rw [if_neg (show ¬ (false = true) by decide)] at H; exact H
          clear H
          have H := H1
          clear H1
          have H' := Aside0.mk H
          clear H
          go_wp2_with (first | ((with_reducible refine gate_callee (f := 79) rfl ?_); refine goesL_ (some 11) rfl rfl Tryd.func79 (by kernel_rfl) rfl #[.string a0] rfl (by (try simp only [List.map_toArray, List.map_cons, List.map_nil]); first | done | rfl | (simp only [List.length_drop, List.length_take]; rfl)) ?_; (with_reducible refine (spec_Digits.calls k a0 true _ A5.out).mono ?_); rintro e w' ⟨rfl, ⟨nd, rfl⟩⟩; refine ⟨_, rfl, ?_⟩) | (go_at_call 79; (with_reducible refine (spec_Digits.calls k a1 false _ A7.out).mono ?_); rintro e w' ⟨rfl, ⟨nd, rfl⟩⟩))
          go_meet
          case rel => exact ⟨_, (false), (by first | rfl | (simp; done) | (simp [*]; done)), H', ⟨by first | omega | exact Nat.le_refl _⟩, by repeat (first | exact Drawn0.refl _ | apply Drawn0.step)⟩
      · replace c6 := Bool.eq_false_iff.mpr c6
        subst c6
        have H1 : (spec_ComparePart.j0 k a0 a1 false) = some r := by rw [if_neg (show ¬ (false = true) by decide)] at H; exact H
        clear H
        have H := H1
        clear H1
        have H' := Aside0.mk H
        clear H
        go_wp2_with (first | ((with_reducible refine gate_callee (f := 79) rfl ?_); refine goesL_ (some 11) rfl rfl Tryd.func79 (by kernel_rfl) rfl #[.string a0] rfl (by (try simp only [List.map_toArray, List.map_cons, List.map_nil]); first | done | rfl | (simp only [List.length_drop, List.length_take]; rfl)) ?_; (with_reducible refine (spec_Digits.calls k a0 false _ A5.out).mono ?_); rintro e w' ⟨rfl, ⟨nd, rfl⟩⟩; refine ⟨_, rfl, ?_⟩))
        go_meet
        case rel => exact ⟨_, (false), (by first | rfl | (simp; done) | (simp [*]; done)), H', ⟨by first | omega | exact Nat.le_refl _⟩, by repeat (first | exact Drawn0.refl _ | apply Drawn0.step)⟩
    case rest =>
      clear HC4
      try clear c1
      try clear p2
      try clear c3
      try clear c3b0
      try clear c3b1
      try clear c6
      try clear c7
      try clear c8
      obtain ⟨kq, x9_3, rfl, HA, HJ3, ⟨mc3, rfl⟩⟩ := hcut
      cases kq with
      | zero => exact absurd HA.out (by simp [spec_ComparePart.j0])
      | succ kj3 =>
        have H := HA.out
        clear HA
        simp only [spec_ComparePart.j0] at H
        by_cases c9 : x9_3 = true
        · subst c9
          have H1 : ((spec_order.f (IntKind.u64.wrap ((a0.size : Int))) (IntKind.u64.wrap ((a1.size : Int)))).bind fun t152 => (some t152)) = some r := by rw [if_pos rfl] at H; exact H
          clear H
          have H := H1
          clear H1
          replace H := Option.bind_eq_some_iff.mp H
          obtain ⟨t152, A100, H⟩ := H
          replace H : (some t152) = some r := H
          have A10 := Aside0.mk A100
          clear A100
          obtain rfl := Option.some.inj H
          go_wp2_with (first | ((with_reducible refine gate_callee (f := 71) rfl ?_); refine goesL_ (some 29) rfl rfl Tryd.func71 (by kernel_rfl) rfl #[.int .u64 (IntKind.u64.wrap ((a0.size : Int))), .int .u64 (IntKind.u64.wrap ((a1.size : Int)))] rfl (by (try simp only [List.map_toArray, List.map_cons, List.map_nil]); first | done | rfl | (simp only [List.length_drop, List.length_take]; rfl)) ?_; (with_reducible refine (spec_order.calls (IntKind.u64.wrap ((a0.size : Int))) (IntKind.u64.wrap ((a1.size : Int))) t152 _ A10.out).mono ?_); rintro e w' ⟨rfl, ⟨nd, rfl⟩⟩; refine ⟨_, rfl, ?_⟩))
          go_ret
          exact ⟨by first | rfl | (simp; done) | (simp [*]; done) | (simp [bneNil]; done), by repeat (first | exact Drawn0.refl _ | apply Drawn0.step)⟩
        · replace c9 := Bool.eq_false_iff.mpr c9
          subst c9
          have H1 : ((spec_Digits.f kj3 a0).bind fun t153 => ((spec_Digits.f kj3 a1).bind fun t154 => (if (t153 != t154) = true then ((spec_Digits.f kj3 a0).bind fun t155 => (if t155 = true then (some (-1)) else (some 1))) else (if (Op.bytesLess a0.toList a1.toList) = true then (some (-1)) else (some 1))))) = some r := by rw [if_neg (show ¬ (false = true) by decide)] at H; exact H
          clear H
          have H := H1
          clear H1
          replace H := Option.bind_eq_some_iff.mp H
          obtain ⟨t153, A110, H⟩ := H
          replace H : ((spec_Digits.f kj3 a1).bind fun t154 => (if (t153 != t154) = true then ((spec_Digits.f kj3 a0).bind fun t155 => (if t155 = true then (some (-1)) else (some 1))) else (if (Op.bytesLess a0.toList a1.toList) = true then (some (-1)) else (some 1)))) = some r := H
          have A11 := Aside0.mk A110
          clear A110
          replace H := Option.bind_eq_some_iff.mp H
          obtain ⟨t154, A120, H⟩ := H
          replace H : (if (t153 != t154) = true then ((spec_Digits.f kj3 a0).bind fun t155 => (if t155 = true then (some (-1)) else (some 1))) else (if (Op.bytesLess a0.toList a1.toList) = true then (some (-1)) else (some 1))) = some r := H
          have A12 := Aside0.mk A120
          clear A120
          by_cases c13 : (t153 != t154) = true
          · rw [if_pos c13] at H
            have c13b0 : (t153 != t154) = true := c13
            (try (have c13b1 : decide (t153 = t154) = false := by simpa using c13))
            (try (have c13b2 : (t153 == t154) = false := by simpa using c13))
            (try (have c13b3 : ¬ (t153 = t154) := by simpa using c13))
            clear c13
            replace H := Option.bind_eq_some_iff.mp H
            obtain ⟨t155, A140, H⟩ := H
            replace H : (if t155 = true then (some (-1)) else (some 1)) = some r := H
            have A14 := Aside0.mk A140
            clear A140
            by_cases c15 : t155 = true
            · subst c15
              have H1 : (some (-1)) = some r := by rw [if_pos rfl] at H; exact H
              clear H
              have H := H1
              clear H1
              obtain rfl := Option.some.inj H
              go_wp2_with (first | ((with_reducible refine gate_callee (f := 79) rfl ?_); refine goesL_ (some 32) rfl rfl Tryd.func79 (by kernel_rfl) rfl #[.string a0] rfl (by (try simp only [List.map_toArray, List.map_cons, List.map_nil]); first | done | rfl | (simp only [List.length_drop, List.length_take]; rfl)) ?_; (with_reducible refine (spec_Digits.calls kj3 a0 t153 _ A11.out).mono ?_); rintro e w' ⟨rfl, ⟨nd, rfl⟩⟩; refine ⟨_, rfl, ?_⟩) | ((with_reducible refine gate_callee (f := 79) rfl ?_); refine goesL_ (some 34) rfl rfl Tryd.func79 (by kernel_rfl) rfl #[.string a1] rfl (by (try simp only [List.map_toArray, List.map_cons, List.map_nil]); first | done | rfl | (simp only [List.length_drop, List.length_take]; rfl)) ?_; (with_reducible refine (spec_Digits.calls kj3 a1 t154 _ A12.out).mono ?_); rintro e w' ⟨rfl, ⟨nd, rfl⟩⟩; refine ⟨_, rfl, ?_⟩) | ((with_reducible refine gate_callee (f := 79) rfl ?_); refine goesL_ (some 37) rfl rfl Tryd.func79 (by kernel_rfl) rfl #[.string a0] rfl (by (try simp only [List.map_toArray, List.map_cons, List.map_nil]); first | done | rfl | (simp only [List.length_drop, List.length_take]; rfl)) ?_; (with_reducible refine (spec_Digits.calls kj3 a0 true _ A14.out).mono ?_); rintro e w' ⟨rfl, ⟨nd, rfl⟩⟩; refine ⟨_, rfl, ?_⟩))
              go_ret
              exact ⟨by first | rfl | (simp; done) | (simp [*]; done) | (simp [bneNil]; done), by repeat (first | exact Drawn0.refl _ | apply Drawn0.step)⟩
            · replace c15 := Bool.eq_false_iff.mpr c15
              subst c15
              have H1 : (some 1) = some r := by rw [if_neg (show ¬ (false = true) by decide)] at H; exact H
              clear H
              have H := H1
              clear H1
              obtain rfl := Option.some.inj H
              go_wp2_with (first | ((with_reducible refine gate_callee (f := 79) rfl ?_); refine goesL_ (some 32) rfl rfl Tryd.func79 (by kernel_rfl) rfl #[.string a0] rfl (by (try simp only [List.map_toArray, List.map_cons, List.map_nil]); first | done | rfl | (simp only [List.length_drop, List.length_take]; rfl)) ?_; (with_reducible refine (spec_Digits.calls kj3 a0 t153 _ A11.out).mono ?_); rintro e w' ⟨rfl, ⟨nd, rfl⟩⟩; refine ⟨_, rfl, ?_⟩) | ((with_reducible refine gate_callee (f := 79) rfl ?_); refine goesL_ (some 34) rfl rfl Tryd.func79 (by kernel_rfl) rfl #[.string a1] rfl (by (try simp only [List.map_toArray, List.map_cons, List.map_nil]); first | done | rfl | (simp only [List.length_drop, List.length_take]; rfl)) ?_; (with_reducible refine (spec_Digits.calls kj3 a1 t154 _ A12.out).mono ?_); rintro e w' ⟨rfl, ⟨nd, rfl⟩⟩; refine ⟨_, rfl, ?_⟩) | ((with_reducible refine gate_callee (f := 79) rfl ?_); refine goesL_ (some 37) rfl rfl Tryd.func79 (by kernel_rfl) rfl #[.string a0] rfl (by (try simp only [List.map_toArray, List.map_cons, List.map_nil]); first | done | rfl | (simp only [List.length_drop, List.length_take]; rfl)) ?_; (with_reducible refine (spec_Digits.calls kj3 a0 false _ A14.out).mono ?_); rintro e w' ⟨rfl, ⟨nd, rfl⟩⟩; refine ⟨_, rfl, ?_⟩))
              go_ret
              exact ⟨by first | rfl | (simp; done) | (simp [*]; done) | (simp [bneNil]; done), by repeat (first | exact Drawn0.refl _ | apply Drawn0.step)⟩
          · rw [if_neg c13] at H
            have c13b0 : (t153 != t154) = false := by simpa using c13
            (try (have c13b1 : decide (t153 = t154) = true := by simpa using c13))
            (try (have c13b2 : (t153 == t154) = true := by simpa using c13))
            clear c13
            by_cases c16 : (Op.bytesLess a0.toList a1.toList) = true
            · rw [if_pos c16] at H
              have c16b0 : (Op.bytesLess a0.toList a1.toList) = true := c16
              clear c16
              obtain rfl := Option.some.inj H
              go_wp2_with (first | ((with_reducible refine gate_callee (f := 79) rfl ?_); refine goesL_ (some 32) rfl rfl Tryd.func79 (by kernel_rfl) rfl #[.string a0] rfl (by (try simp only [List.map_toArray, List.map_cons, List.map_nil]); first | done | rfl | (simp only [List.length_drop, List.length_take]; rfl)) ?_; (with_reducible refine (spec_Digits.calls kj3 a0 t153 _ A11.out).mono ?_); rintro e w' ⟨rfl, ⟨nd, rfl⟩⟩; refine ⟨_, rfl, ?_⟩) | ((with_reducible refine gate_callee (f := 79) rfl ?_); refine goesL_ (some 34) rfl rfl Tryd.func79 (by kernel_rfl) rfl #[.string a1] rfl (by (try simp only [List.map_toArray, List.map_cons, List.map_nil]); first | done | rfl | (simp only [List.length_drop, List.length_take]; rfl)) ?_; (with_reducible refine (spec_Digits.calls kj3 a1 t154 _ A12.out).mono ?_); rintro e w' ⟨rfl, ⟨nd, rfl⟩⟩; refine ⟨_, rfl, ?_⟩))
              go_ret
              exact ⟨by first | rfl | (simp; done) | (simp [*]; done) | (simp [bneNil]; done), by repeat (first | exact Drawn0.refl _ | apply Drawn0.step)⟩
            · rw [if_neg c16] at H
              have c16b0 : (Op.bytesLess a0.toList a1.toList) = false := by simpa using c16
              clear c16
              obtain rfl := Option.some.inj H
              go_wp2_with (first | ((with_reducible refine gate_callee (f := 79) rfl ?_); refine goesL_ (some 32) rfl rfl Tryd.func79 (by kernel_rfl) rfl #[.string a0] rfl (by (try simp only [List.map_toArray, List.map_cons, List.map_nil]); first | done | rfl | (simp only [List.length_drop, List.length_take]; rfl)) ?_; (with_reducible refine (spec_Digits.calls kj3 a0 t153 _ A11.out).mono ?_); rintro e w' ⟨rfl, ⟨nd, rfl⟩⟩; refine ⟨_, rfl, ?_⟩) | ((with_reducible refine gate_callee (f := 79) rfl ?_); refine goesL_ (some 34) rfl rfl Tryd.func79 (by kernel_rfl) rfl #[.string a1] rfl (by (try simp only [List.map_toArray, List.map_cons, List.map_nil]); first | done | rfl | (simp only [List.length_drop, List.length_take]; rfl)) ?_; (with_reducible refine (spec_Digits.calls kj3 a1 t154 _ A12.out).mono ?_); rintro e w' ⟨rfl, ⟨nd, rfl⟩⟩; refine ⟨_, rfl, ?_⟩))
              go_ret
              exact ⟨by first | rfl | (simp; done) | (simp [*]; done) | (simp [bneNil]; done), by repeat (first | exact Drawn0.refl _ | apply Drawn0.step)⟩

mutual
def spec_ComparePre.l0 : Nat → List ByteArray → List ByteArray → Int → Option (Int)
  | 0, _, _, _ => none
  | k + 1, x5, x6, x7 => if x7 < (x5.length : Int) then (spec_ComparePre.j1 k x5 x6 x7 (decide (x7 < (x6.length : Int)))) else (spec_ComparePre.j1 k x5 x6 x7 false)
def spec_ComparePre.j1 : Nat → List ByteArray → List ByteArray → Int → Bool → Option (Int)
  | 0, _, _, _, _ => none
  | k + 1, x5, x6, x7, x32 => if x32 = true then (if 0 ≤ x7 then (if x7 < (x5.length : Int) then (if x7 < (x6.length : Int) then ((spec_ComparePart.f k (rdOf ByteArray.empty x5 x7) (rdOf ByteArray.empty x6 x7)).bind fun t164 => (if t164 = 0 then (spec_ComparePre.l0 k x5 x6 (wrap64 (x7 + 1))) else (some t164))) else (none)) else (none)) else (none)) else ((spec_order.f (IntKind.u64.wrap ((x5.length : Int))) (IntKind.u64.wrap ((x6.length : Int)))).bind fun t165 => (some t165))
end

def spec_ComparePre.f (k : Nat) (a0 : ByteArray) (a1 : ByteArray) : Option (Int) := if a0.toList = a1.toList then (some 0) else (if a0.toList = ([] : List UInt8) then (some 1) else (if a1.toList = ([] : List UInt8) then (some (-1)) else ((spec_Identifiers.f k a0).bind fun t156 => ((spec_Identifiers.f k a1).bind fun t159 => (spec_ComparePre.l0 k t156 t159 0)))))

theorem spec_ComparePre.mono_l : ∀ k, (∀ y0 y1 y2, LeO (spec_ComparePre.l0 k y0 y1 y2) (spec_ComparePre.l0 (k + 1) y0 y1 y2)) ∧ (∀ y0 y1 y2 y3, LeO (spec_ComparePre.j1 k y0 y1 y2 y3) (spec_ComparePre.j1 (k + 1) y0 y1 y2 y3))
  | 0 => ⟨fun _ _ _ r h => by simp [spec_ComparePre.l0] at h, fun _ _ _ _ r h => by simp [spec_ComparePre.j1] at h⟩
  | k + 1 => by
    obtain ⟨ih0, ih1⟩ := spec_ComparePre.mono_l k
    refine ⟨?_, ?_⟩
    · intro y0 y1 y2
      unfold spec_ComparePre.l0
      repeat' first
      | (with_reducible exact ih0 _ _ _)
      | (with_reducible exact ih1 _ _ _ _)
      | (with_reducible exact spec_ComparePart.mono _ _ _)
      | (with_reducible exact spec_Identifiers.mono _ _)
      | (with_reducible exact LeO.refl _)
      | (with_reducible exact LeO.none _)
      | (with_reducible refine LeO.ite ?_ ?_)
      | (with_reducible refine LeO.bind ?_ (fun _ => ?_))
      | exact ih0 _ _ _
      | exact ih1 _ _ _ _
      | exact spec_ComparePart.mono _ _ _
      | exact spec_Identifiers.mono _ _
      | exact LeO.none _
      | refine LeO.ite ?_ ?_
      | refine LeO.bind ?_ (fun _ => ?_)
    · intro y0 y1 y2 y3
      unfold spec_ComparePre.j1
      repeat' first
      | (with_reducible exact ih0 _ _ _)
      | (with_reducible exact ih1 _ _ _ _)
      | (with_reducible exact spec_ComparePart.mono _ _ _)
      | (with_reducible exact spec_Identifiers.mono _ _)
      | (with_reducible exact LeO.refl _)
      | (with_reducible exact LeO.none _)
      | (with_reducible refine LeO.ite ?_ ?_)
      | (with_reducible refine LeO.bind ?_ (fun _ => ?_))
      | exact ih0 _ _ _
      | exact ih1 _ _ _ _
      | exact spec_ComparePart.mono _ _ _
      | exact spec_Identifiers.mono _ _
      | exact LeO.none _
      | refine LeO.ite ?_ ?_
      | refine LeO.bind ?_ (fun _ => ?_)

theorem spec_ComparePre.mono : ∀ a0 a1 k, LeO (spec_ComparePre.f k a0 a1) (spec_ComparePre.f (k + 1) a0 a1) := by
  intro a0 a1 k
  obtain ⟨ih0, ih1⟩ := spec_ComparePre.mono_l k
  unfold spec_ComparePre.f
  repeat' first
      | (with_reducible exact ih0 _ _ _)
      | (with_reducible exact ih1 _ _ _ _)
      | (with_reducible exact spec_ComparePart.mono _ _ _)
      | (with_reducible exact spec_Identifiers.mono _ _)
      | (with_reducible exact LeO.refl _)
      | (with_reducible exact LeO.none _)
      | (with_reducible refine LeO.ite ?_ ?_)
      | (with_reducible refine LeO.bind ?_ (fun _ => ?_))
      | exact ih0 _ _ _
      | exact ih1 _ _ _ _
      | exact spec_ComparePart.mono _ _ _
      | exact spec_Identifiers.mono _ _
      | exact LeO.none _
      | refine LeO.ite ?_ ?_
      | refine LeO.bind ?_ (fun _ => ?_)

set_option maxHeartbeats 80000000 in
set_option maxRecDepth 100000 in
theorem spec_ComparePre.calls (k : Nat) (a0 : ByteArray) (a1 : ByteArray) (r : Int) (w : World) (h : spec_ComparePre.f k a0 a1 = some r) :
    Calls Tryd.prog 85 #[.string a0, .string a1] w fun e w' => e = .returned (.int .i64 r) ∧ Below w.heap.size w w' := by
  have HB := Aside0.mk (Below.refl w.heap.size w)
  have H : (if a0.toList = a1.toList then (some 0) else (if a0.toList = ([] : List UInt8) then (some 1) else (if a1.toList = ([] : List UInt8) then (some (-1)) else ((spec_Identifiers.f k a0).bind fun t156 => ((spec_Identifiers.f k a1).bind fun t159 => (spec_ComparePre.l0 k t156 t159 0)))))) = some r := h
  clear h
  by_cases c3 : a0.toList = a1.toList
  · rw [if_pos c3] at H
    have c3b0 : (a0.toList == a1.toList) = true := beq_iff_eq.mpr c3
    have c3b1 : (a0.toList != a1.toList) = false := bne_eq_false_iff_eq.mpr c3
    clear c3
    obtain rfl := Option.some.inj H
    go_enter Tryd.func85, Tryd.ntmps85
    go_wp2
    repeat (go_quiet (fail); try go_wp2)
    go_ret
    exact ⟨by first | rfl | (simp [errW_none, errW_some] <;> rfl) | (simp [*, errW_none, errW_some] <;> rfl) | (simp [bneNil]; done), by repeat (first | (with_reducible first | exact HB.out | apply below_alloc | apply pw_below_drewN | apply below_drew1) | exact HB.out)⟩
  · rw [if_neg c3] at H
    have c3b0 : (a0.toList == a1.toList) = false := beq_eq_false_iff_ne.mpr c3
    have c3b1 : (a0.toList != a1.toList) = true := bne_iff_ne.mpr c3
    by_cases c4 : a0.toList = ([] : List UInt8)
    · rw [if_pos c4] at H
      have c4b0 : (a0.toList == ([] : List UInt8)) = true := beq_iff_eq.mpr c4
      have c4b1 : (a0.toList != ([] : List UInt8)) = false := bne_eq_false_iff_eq.mpr c4
      clear c4
      obtain rfl := Option.some.inj H
      go_enter Tryd.func85, Tryd.ntmps85
      go_wp2
      repeat (go_quiet (fail); try go_wp2)
      go_ret
      exact ⟨by first | rfl | (simp [errW_none, errW_some] <;> rfl) | (simp [*, errW_none, errW_some] <;> rfl) | (simp [bneNil]; done), by repeat (first | (with_reducible first | exact HB.out | apply below_alloc | apply pw_below_drewN | apply below_drew1) | exact HB.out)⟩
    · rw [if_neg c4] at H
      have c4b0 : (a0.toList == ([] : List UInt8)) = false := beq_eq_false_iff_ne.mpr c4
      have c4b1 : (a0.toList != ([] : List UInt8)) = true := bne_iff_ne.mpr c4
      by_cases c5 : a1.toList = ([] : List UInt8)
      · rw [if_pos c5] at H
        have c5b0 : (a1.toList == ([] : List UInt8)) = true := beq_iff_eq.mpr c5
        have c5b1 : (a1.toList != ([] : List UInt8)) = false := bne_eq_false_iff_eq.mpr c5
        clear c5
        obtain rfl := Option.some.inj H
        go_enter Tryd.func85, Tryd.ntmps85
        go_wp2
        repeat (go_quiet (fail); try go_wp2)
        go_ret
        exact ⟨by first | rfl | (simp [errW_none, errW_some] <;> rfl) | (simp [*, errW_none, errW_some] <;> rfl) | (simp [bneNil]; done), by repeat (first | (with_reducible first | exact HB.out | apply below_alloc | apply pw_below_drewN | apply below_drew1) | exact HB.out)⟩
      · rw [if_neg c5] at H
        have c5b0 : (a1.toList == ([] : List UInt8)) = false := beq_eq_false_iff_ne.mpr c5
        have c5b1 : (a1.toList != ([] : List UInt8)) = true := bne_iff_ne.mpr c5
        replace H := Option.bind_eq_some_iff.mp H
        obtain ⟨t156, A60, H⟩ := H
        replace H : ((spec_Identifiers.f k a1).bind fun t159 => (spec_ComparePre.l0 k t156 t159 0)) = some r := H
        have A6 := Aside0.mk A60
        clear A60
        replace H := Option.bind_eq_some_iff.mp H
        obtain ⟨t159, A70, H⟩ := H
        replace H : (spec_ComparePre.l0 k t156 t159 0) = some r := H
        have A7 := Aside0.mk A70
        clear A70
        have H' := Aside0.mk H
        clear H
        go_enter Tryd.func85, Tryd.ntmps85
        go_wp2_with (first | (go_at_call 77; (with_reducible refine (spec_Identifiers.calls k a0 t156 _ A6.out).mono ?_); rintro e w8 ⟨v157, rfl, ho0, hb⟩; have n0_ := Aside0.mk (Kd.R_lower ho0 (below_size (by repeat (first | (with_reducible first | exact HB.out | apply below_alloc | apply pw_below_drewN | apply below_drew1) | exact HB.out)))); have n1_ := Aside0.mk (below_step (by repeat (first | (with_reducible first | exact HB.out | apply below_alloc | apply pw_below_drewN | apply below_drew1) | exact HB.out)) hb); clear HB; have HO158 := n0_; have HB := n1_; clear n0_ n1_; (try clear hb); (try clear hb2); (try clear hk); (try clear hi); (try clear ho0)) | (go_at_call 77; (with_reducible refine (spec_Identifiers.calls k a1 t159 _ A7.out).mono ?_); rintro e w9 ⟨v160, rfl, ho0, hb⟩; have n0_ := Aside0.mk (Kd.R_elder' (by (with_reducible repeat (first | apply Kd.R_alloc | apply Kd.R_drewN | apply Kd.R_drew)); exact HO158.out) (Kd.R_base ho0) hb); have n1_ := Aside0.mk (Kd.R_lower (Kd.R_new' ho0 (Kd.R_lt (by (with_reducible repeat (first | apply Kd.R_alloc | apply Kd.R_drewN | apply Kd.R_drew)); exact HO158.out))) (below_size (by repeat (first | (with_reducible first | exact HB.out | apply below_alloc | apply pw_below_drewN | apply below_drew1) | exact HB.out)))); have n2_ := Aside0.mk (below_step (by repeat (first | (with_reducible first | exact HB.out | apply below_alloc | apply pw_below_drewN | apply below_drew1) | exact HB.out)) hb); clear HO158; clear HB; have HO158 := n0_; have HO161 := n1_; have HB := n2_; clear n0_ n1_ n2_; (try clear hb); (try clear hb2); (try clear hk); (try clear hi); (try clear ho0)))
        repeat (go_quiet (first | (go_at_call 77; (with_reducible refine (spec_Identifiers.calls k a0 t156 _ A6.out).mono ?_); rintro e w8 ⟨v157, rfl, ho0, hb⟩; have n0_ := Aside0.mk (Kd.R_lower ho0 (below_size (by repeat (first | (with_reducible first | exact HB.out | apply below_alloc | apply pw_below_drewN | apply below_drew1) | exact HB.out)))); have n1_ := Aside0.mk (below_step (by repeat (first | (with_reducible first | exact HB.out | apply below_alloc | apply pw_below_drewN | apply below_drew1) | exact HB.out)) hb); clear HB; have HO158 := n0_; have HB := n1_; clear n0_ n1_; (try clear hb); (try clear hb2); (try clear hk); (try clear hi); (try clear ho0)) | (go_at_call 77; (with_reducible refine (spec_Identifiers.calls k a1 t159 _ A7.out).mono ?_); rintro e w9 ⟨v160, rfl, ho0, hb⟩; have n0_ := Aside0.mk (Kd.R_elder' (by (with_reducible repeat (first | apply Kd.R_alloc | apply Kd.R_drewN | apply Kd.R_drew)); exact HO158.out) (Kd.R_base ho0) hb); have n1_ := Aside0.mk (Kd.R_lower (Kd.R_new' ho0 (Kd.R_lt (by (with_reducible repeat (first | apply Kd.R_alloc | apply Kd.R_drewN | apply Kd.R_drew)); exact HO158.out))) (below_size (by repeat (first | (with_reducible first | exact HB.out | apply below_alloc | apply pw_below_drewN | apply below_drew1) | exact HB.out)))); have n2_ := Aside0.mk (below_step (by repeat (first | (with_reducible first | exact HB.out | apply below_alloc | apply pw_below_drewN | apply below_drew1) | exact HB.out)) hb); clear HO158; clear HB; have HO158 := n0_; have HO161 := n1_; have HB := n2_; clear n0_ n1_ n2_; (try clear hb); (try clear hb2); (try clear hk); (try clear hi); (try clear ho0))); try go_wp2_with (first | (go_at_call 77; (with_reducible refine (spec_Identifiers.calls k a0 t156 _ A6.out).mono ?_); rintro e w8 ⟨v157, rfl, ho0, hb⟩; have n0_ := Aside0.mk (Kd.R_lower ho0 (below_size (by repeat (first | (with_reducible first | exact HB.out | apply below_alloc | apply pw_below_drewN | apply below_drew1) | exact HB.out)))); have n1_ := Aside0.mk (below_step (by repeat (first | (with_reducible first | exact HB.out | apply below_alloc | apply pw_below_drewN | apply below_drew1) | exact HB.out)) hb); clear HB; have HO158 := n0_; have HB := n1_; clear n0_ n1_; (try clear hb); (try clear hb2); (try clear hk); (try clear hi); (try clear ho0)) | (go_at_call 77; (with_reducible refine (spec_Identifiers.calls k a1 t159 _ A7.out).mono ?_); rintro e w9 ⟨v160, rfl, ho0, hb⟩; have n0_ := Aside0.mk (Kd.R_elder' (by (with_reducible repeat (first | apply Kd.R_alloc | apply Kd.R_drewN | apply Kd.R_drew)); exact HO158.out) (Kd.R_base ho0) hb); have n1_ := Aside0.mk (Kd.R_lower (Kd.R_new' ho0 (Kd.R_lt (by (with_reducible repeat (first | apply Kd.R_alloc | apply Kd.R_drewN | apply Kd.R_drew)); exact HO158.out))) (below_size (by repeat (first | (with_reducible first | exact HB.out | apply below_alloc | apply pw_below_drewN | apply below_drew1) | exact HB.out)))); have n2_ := Aside0.mk (below_step (by repeat (first | (with_reducible first | exact HB.out | apply below_alloc | apply pw_below_drewN | apply below_drew1) | exact HB.out)) hb); clear HO158; clear HB; have HO158 := n0_; have HO161 := n1_; have HB := n2_; clear n0_ n1_ n2_; (try clear hb); (try clear hb2); (try clear hk); (try clear hi); (try clear ho0))))
        go_loopg [7] k (fun kq v7 w' => ∃ (x7_1 : Int), v7 = .int .i64 x7_1 ∧ Aside0 (spec_ComparePre.l0 kq t156 t159 x7_1 = some r) ∧ Aside0 (kq ≤ k) ∧ Aside0 (Kd.R Kd.string 9 w' w.heap.size (fun k_ => some k_ ≠ (v160 : Value).ownBlock) v157 t156) ∧ Aside0 (Kd.R Kd.string 9 w' w.heap.size (fun k_ => some k_ ≠ (v157 : Value).ownBlock) v160 t159) ∧ Aside0 (Below w.heap.size w w'))
        case atStart => exact ⟨(0), (by first | rfl | (simp; done) | (simp [*]; done)), H', ⟨Nat.le_refl _⟩, ⟨by (with_reducible repeat (first | apply Kd.R_alloc | apply Kd.R_drewN | apply Kd.R_drew)); exact Kd.R_mono HO158.out (fun _ hk => hk.2)⟩, ⟨by (with_reducible repeat (first | apply Kd.R_alloc | apply Kd.R_drewN | apply Kd.R_drew)); exact Kd.R_mono HO161.out (fun _ hk => hk.2)⟩, ⟨by repeat (first | (with_reducible first | exact HB.out | apply below_alloc | apply pw_below_drewN | apply below_drew1) | exact HB.out)⟩⟩
        case round =>
          clear H'
          try clear p2
          try clear c3
          try clear c3b0
          try clear c3b1
          try clear c4
          try clear c4b0
          try clear c4b1
          try clear c5
          try clear c5b0
          try clear c5b1
          try clear c8
          obtain ⟨x7_1, rfl, HA, HK1, HO_5, HO_6, HB⟩ := hrel
          cases gk with
          | zero => exact absurd HA.out (by simp [spec_ComparePre.l0])
          | succ k1 =>
            have H := HA.out
            clear HA
            simp only [spec_ComparePre.l0] at H
            have HC10 := Aside0.mk H
            clear H
            go_upto_region 9 with (fail)
            repeat (go_quiet (fail); go_upto_region 9 with (fail))
            go_cut [32] (fun v32 wc => ∃ (kq : Nat) (x32_9 : Bool), v32 = .bool x32_9 ∧ Aside0 (spec_ComparePre.j1 kq t156 t159 x7_1 x32_9 = some r) ∧ Aside0 (kq ≤ k1) ∧ Aside0 (Kd.R Kd.string 9 wc w.heap.size (fun k_ => some k_ ≠ (v160 : Value).ownBlock) v157 t156) ∧ Aside0 (Kd.R Kd.string 9 wc w.heap.size (fun k_ => some k_ ≠ (v157 : Value).ownBlock) v160 t159) ∧ Aside0 (Below w.heap.size w wc))
            case first =>
              have H := HC10.out
              clear HC10
              by_cases c11 : x7_1 < (t156.length : Int)
              · rw [if_pos c11] at H
                have c11b0 : decide (x7_1 < (t156.length : Int)) = true := decide_eq_true c11
                clear c11
                (first | rw [c11b0] | (simp only [i64_w, i32_w]; rw [c11b0]) | skip)
                have H' := Aside0.mk H
                clear H
                obtain ⟨Ao12, co12, eo12⟩ := Kd.R_slice HO_5.out
                subst eo12
                obtain ⟨Ao13, co13, eo13⟩ := Kd.R_slice HO_6.out
                subst eo13
                go_wp2
                repeat (go_quiet (fail); try go_wp2)
                go_meet
                case rel => exact ⟨_, (decide (x7_1 < (t159.length : Int))), (by first | rfl | (simp; done) | (simp [*]; done)), H', ⟨by have := HK1.out; first | omega | exact Nat.le_refl _⟩, ⟨by (with_reducible repeat (first | apply Kd.R_alloc | apply Kd.R_drewN | apply Kd.R_drew)); exact HO_5.out⟩, ⟨by (with_reducible repeat (first | apply Kd.R_alloc | apply Kd.R_drewN | apply Kd.R_drew)); exact HO_6.out⟩, ⟨by repeat (first | (with_reducible first | exact HB.out | apply below_alloc | apply pw_below_drewN | apply below_drew1) | exact HB.out)⟩⟩
              · rw [if_neg c11] at H
                have c11b0 : decide (x7_1 < (t156.length : Int)) = false := decide_eq_false c11
                clear c11
                (first | rw [c11b0] | (simp only [i64_w, i32_w]; rw [c11b0]) | skip)
                have H' := Aside0.mk H
                clear H
                obtain ⟨Ao14, co14, eo14⟩ := Kd.R_slice HO_5.out
                subst eo14
                go_wp2
                repeat (go_quiet (fail); try go_wp2)
                go_meet
                case rel => exact ⟨_, (false), (by first | rfl | (simp; done) | (simp [*]; done)), H', ⟨by have := HK1.out; first | omega | exact Nat.le_refl _⟩, ⟨by (with_reducible repeat (first | apply Kd.R_alloc | apply Kd.R_drewN | apply Kd.R_drew)); exact HO_5.out⟩, ⟨by (with_reducible repeat (first | apply Kd.R_alloc | apply Kd.R_drewN | apply Kd.R_drew)); exact HO_6.out⟩, ⟨by repeat (first | (with_reducible first | exact HB.out | apply below_alloc | apply pw_below_drewN | apply below_drew1) | exact HB.out)⟩⟩
            case rest =>
              clear HC10
              try clear c1
              try clear p2
              try clear c3
              try clear c3b0
              try clear c3b1
              try clear c4
              try clear c4b0
              try clear c4b1
              try clear c5
              try clear c5b0
              try clear c5b1
              try clear c8
              try clear c11
              try clear c11b0
              try clear p2
              obtain ⟨kq, x32_9, rfl, HA, HJ9, HO_5, HO_6, HB⟩ := hcut
              cases kq with
              | zero => exact absurd HA.out (by simp [spec_ComparePre.j1])
              | succ kj9 =>
                have H := HA.out
                clear HA
                simp only [spec_ComparePre.j1] at H
                by_cases c15 : x32_9 = true
                · subst c15
                  have H1 : (if 0 ≤ x7_1 then (if x7_1 < (t156.length : Int) then (if x7_1 < (t159.length : Int) then ((spec_ComparePart.f kj9 (rdOf ByteArray.empty t156 x7_1) (rdOf ByteArray.empty t159 x7_1)).bind fun t164 => (if t164 = 0 then (spec_ComparePre.l0 kj9 t156 t159 (wrap64 (x7_1 + 1))) else (some t164))) else (none)) else (none)) else (none)) = some r := by rw [if_pos rfl] at H; exact H
                  clear H
                  have H := H1
                  clear H1
                  by_cases c16 : 0 ≤ x7_1
                  · rw [if_pos c16] at H
                    have c16b0 : decide (0 ≤ x7_1) = true := decide_eq_true c16
                    clear c16
                    by_cases c17 : x7_1 < (t156.length : Int)
                    · rw [if_pos c17] at H
                      have c17b0 : decide (x7_1 < (t156.length : Int)) = true := decide_eq_true c17
                      clear c17
                      by_cases c18 : x7_1 < (t159.length : Int)
                      · rw [if_pos c18] at H
                        have c18b0 : decide (x7_1 < (t159.length : Int)) = true := decide_eq_true c18
                        clear c18
                        replace H := Option.bind_eq_some_iff.mp H
                        obtain ⟨t164, A190, H⟩ := H
                        replace H : (if t164 = 0 then (spec_ComparePre.l0 kj9 t156 t159 (wrap64 (x7_1 + 1))) else (some t164)) = some r := H
                        have A19 := Aside0.mk A190
                        clear A190
                        by_cases c20 : t164 = 0
                        · rw [if_pos c20] at H
                          have c20b0 : (t164 == 0) = true := beq_iff_eq.mpr c20
                          have c20b1 : (t164 != 0) = false := bne_eq_false_iff_eq.mpr c20
                          clear c20
                          have H' := Aside0.mk H
                          clear H
                          obtain ⟨Ao21, co21, eo21⟩ := Kd.R_slice HO_5.out
                          subst eo21
                          have p162 : 0 ≤ (x7_1 : Int) := of_decide_eq_true (by first | (with_reducible assumption) | assumption)
                          have q162 : x7_1 < (t156.length : Int) := of_decide_eq_true (by first | (with_reducible assumption) | assumption)
                          obtain ⟨ad162, e162, hx162_0⟩ := Kd.at_string (Kd.R_reads' HO_5.out).2.2 x7_1 p162 q162
                          cases e162
                          replace p162 := eq_true p162
                          replace q162 := eq_true q162
                          obtain ⟨Ao22, co22, eo22⟩ := Kd.R_slice HO_6.out
                          subst eo22
                          have p163 : 0 ≤ (x7_1 : Int) := of_decide_eq_true (by first | (with_reducible assumption) | assumption)
                          have q163 : x7_1 < (t159.length : Int) := of_decide_eq_true (by first | (with_reducible assumption) | assumption)
                          obtain ⟨ad163, e163, hx163_0⟩ := Kd.at_string (Kd.R_reads' HO_6.out).2.2 x7_1 p163 q163
                          cases e163
                          replace p163 := eq_true p163
                          replace q163 := eq_true q163
                          go_wp2_with (first | (go_at_call 106; (with_reducible refine (spec_ComparePart.calls kj9 (rdOf ByteArray.empty t156 x7_1) (rdOf ByteArray.empty t159 x7_1) t164 _ A19.out).mono ?_); rintro e w' ⟨rfl, ⟨nd, rfl⟩⟩; (try first | exact ⟨rfl, _, World.drewN_drewN _ _ _⟩ | exact ⟨rfl, _, Eq.trans (World.drewN_drewN _ _ _) (congrArg (World.drewN _) (Nat.add_assoc _ _ _))⟩)))
                          repeat (go_quiet (first | (go_at_call 106; (with_reducible refine (spec_ComparePart.calls kj9 (rdOf ByteArray.empty t156 x7_1) (rdOf ByteArray.empty t159 x7_1) t164 _ A19.out).mono ?_); rintro e w' ⟨rfl, ⟨nd, rfl⟩⟩; (try first | exact ⟨rfl, _, World.drewN_drewN _ _ _⟩ | exact ⟨rfl, _, Eq.trans (World.drewN_drewN _ _ _) (congrArg (World.drewN _) (Nat.add_assoc _ _ _))⟩))); try go_wp2_with (first | (go_at_call 106; (with_reducible refine (spec_ComparePart.calls kj9 (rdOf ByteArray.empty t156 x7_1) (rdOf ByteArray.empty t159 x7_1) t164 _ A19.out).mono ?_); rintro e w' ⟨rfl, ⟨nd, rfl⟩⟩; (try first | exact ⟨rfl, _, World.drewN_drewN _ _ _⟩ | exact ⟨rfl, _, Eq.trans (World.drewN_drewN _ _ _) (congrArg (World.drewN _) (Nat.add_assoc _ _ _))⟩))))
                          go_roundg kj9
                          case measure => have := HK1.out; have := HJ9.out; omega
                          case rel => exact ⟨(wrap64 (x7_1 + 1)), (by first | rfl | (simp; done) | (simp [*]; done)), H', ⟨by have := HK1.out; have := HJ9.out; omega⟩, ⟨by (with_reducible repeat (first | apply Kd.R_alloc | apply Kd.R_drewN | apply Kd.R_drew)); exact HO_5.out⟩, ⟨by (with_reducible repeat (first | apply Kd.R_alloc | apply Kd.R_drewN | apply Kd.R_drew)); exact HO_6.out⟩, ⟨by repeat (first | (with_reducible first | exact HB.out | apply below_alloc | apply pw_below_drewN | apply below_drew1) | exact HB.out)⟩⟩
                        · rw [if_neg c20] at H
                          have c20b0 : (t164 == 0) = false := beq_eq_false_iff_ne.mpr c20
                          have c20b1 : (t164 != 0) = true := bne_iff_ne.mpr c20
                          obtain rfl := Option.some.inj H
                          obtain ⟨Ao23, co23, eo23⟩ := Kd.R_slice HO_5.out
                          subst eo23
                          have p162 : 0 ≤ (x7_1 : Int) := of_decide_eq_true (by first | (with_reducible assumption) | assumption)
                          have q162 : x7_1 < (t156.length : Int) := of_decide_eq_true (by first | (with_reducible assumption) | assumption)
                          obtain ⟨ad162, e162, hx162_0⟩ := Kd.at_string (Kd.R_reads' HO_5.out).2.2 x7_1 p162 q162
                          cases e162
                          replace p162 := eq_true p162
                          replace q162 := eq_true q162
                          obtain ⟨Ao24, co24, eo24⟩ := Kd.R_slice HO_6.out
                          subst eo24
                          have p163 : 0 ≤ (x7_1 : Int) := of_decide_eq_true (by first | (with_reducible assumption) | assumption)
                          have q163 : x7_1 < (t159.length : Int) := of_decide_eq_true (by first | (with_reducible assumption) | assumption)
                          obtain ⟨ad163, e163, hx163_0⟩ := Kd.at_string (Kd.R_reads' HO_6.out).2.2 x7_1 p163 q163
                          cases e163
                          replace p163 := eq_true p163
                          replace q163 := eq_true q163
                          go_wp2_with (first | (go_at_call 106; (with_reducible refine (spec_ComparePart.calls kj9 (rdOf ByteArray.empty t156 x7_1) (rdOf ByteArray.empty t159 x7_1) t164 _ A19.out).mono ?_); rintro e w' ⟨rfl, ⟨nd, rfl⟩⟩; (try first | exact ⟨rfl, _, World.drewN_drewN _ _ _⟩ | exact ⟨rfl, _, Eq.trans (World.drewN_drewN _ _ _) (congrArg (World.drewN _) (Nat.add_assoc _ _ _))⟩)))
                          repeat (go_quiet (first | (go_at_call 106; (with_reducible refine (spec_ComparePart.calls kj9 (rdOf ByteArray.empty t156 x7_1) (rdOf ByteArray.empty t159 x7_1) t164 _ A19.out).mono ?_); rintro e w' ⟨rfl, ⟨nd, rfl⟩⟩; (try first | exact ⟨rfl, _, World.drewN_drewN _ _ _⟩ | exact ⟨rfl, _, Eq.trans (World.drewN_drewN _ _ _) (congrArg (World.drewN _) (Nat.add_assoc _ _ _))⟩))); try go_wp2_with (first | (go_at_call 106; (with_reducible refine (spec_ComparePart.calls kj9 (rdOf ByteArray.empty t156 x7_1) (rdOf ByteArray.empty t159 x7_1) t164 _ A19.out).mono ?_); rintro e w' ⟨rfl, ⟨nd, rfl⟩⟩; (try first | exact ⟨rfl, _, World.drewN_drewN _ _ _⟩ | exact ⟨rfl, _, Eq.trans (World.drewN_drewN _ _ _) (congrArg (World.drewN _) (Nat.add_assoc _ _ _))⟩))))
                          go_ret
                          exact ⟨by first | rfl | (simp [errW_none, errW_some] <;> rfl) | (simp [*, errW_none, errW_some] <;> rfl) | (simp [bneNil]; done), by repeat (first | (with_reducible first | exact HB.out | apply below_alloc | apply pw_below_drewN | apply below_drew1) | exact HB.out)⟩
                      · rw [if_neg c18] at H
                        exact absurd H (by simp)
                    · rw [if_neg c17] at H
                      exact absurd H (by simp)
                  · rw [if_neg c16] at H
                    exact absurd H (by simp)
                · replace c15 := Bool.eq_false_iff.mpr c15
                  subst c15
                  have H1 : ((spec_order.f (IntKind.u64.wrap ((t156.length : Int))) (IntKind.u64.wrap ((t159.length : Int)))).bind fun t165 => (some t165)) = some r := by rw [if_neg (show ¬ (false = true) by decide)] at H; exact H
                  clear H
                  have H := H1
                  clear H1
                  replace H := Option.bind_eq_some_iff.mp H
                  obtain ⟨t165, A250, H⟩ := H
                  replace H : (some t165) = some r := H
                  have A25 := Aside0.mk A250
                  clear A250
                  obtain rfl := Option.some.inj H
                  obtain ⟨Ao26, co26, eo26⟩ := Kd.R_slice HO_5.out
                  subst eo26
                  obtain ⟨Ao27, co27, eo27⟩ := Kd.R_slice HO_6.out
                  subst eo27
                  go_wp2_with (first | (go_at_call 71; (with_reducible refine (spec_order.calls (IntKind.u64.wrap ((t156.length : Int))) (IntKind.u64.wrap ((t159.length : Int))) t165 _ A25.out).mono ?_); rintro e w' ⟨rfl, ⟨nd, rfl⟩⟩; (try first | exact ⟨rfl, _, World.drewN_drewN _ _ _⟩ | exact ⟨rfl, _, Eq.trans (World.drewN_drewN _ _ _) (congrArg (World.drewN _) (Nat.add_assoc _ _ _))⟩)))
                  repeat (go_quiet (first | (go_at_call 71; (with_reducible refine (spec_order.calls (IntKind.u64.wrap ((t156.length : Int))) (IntKind.u64.wrap ((t159.length : Int))) t165 _ A25.out).mono ?_); rintro e w' ⟨rfl, ⟨nd, rfl⟩⟩; (try first | exact ⟨rfl, _, World.drewN_drewN _ _ _⟩ | exact ⟨rfl, _, Eq.trans (World.drewN_drewN _ _ _) (congrArg (World.drewN _) (Nat.add_assoc _ _ _))⟩))); try go_wp2_with (first | (go_at_call 71; (with_reducible refine (spec_order.calls (IntKind.u64.wrap ((t156.length : Int))) (IntKind.u64.wrap ((t159.length : Int))) t165 _ A25.out).mono ?_); rintro e w' ⟨rfl, ⟨nd, rfl⟩⟩; (try first | exact ⟨rfl, _, World.drewN_drewN _ _ _⟩ | exact ⟨rfl, _, Eq.trans (World.drewN_drewN _ _ _) (congrArg (World.drewN _) (Nat.add_assoc _ _ _))⟩))))
                  go_ret
                  exact ⟨by first | rfl | (simp [errW_none, errW_some] <;> rfl) | (simp [*, errW_none, errW_some] <;> rfl) | (simp [bneNil]; done), by repeat (first | (with_reducible first | exact HB.out | apply below_alloc | apply pw_below_drewN | apply below_drew1) | exact HB.out)⟩

def spec_tildeNumbers.f (a0_0 : Int) (a0_1 : Int) (a0_2 : Int) (a0_3 : Int) (a0_4 : Int) (a0_5 : ByteArray) : Option (Int) := some (mn 2 a0_1)

set_option maxHeartbeats 80000000 in
set_option maxRecDepth 100000 in
theorem spec_tildeNumbers.calls (a0_0 : Int) (a0_1 : Int) (a0_2 : Int) (a0_3 : Int) (a0_4 : Int) (a0_5 : ByteArray) (r : Int) (w : World) (h : spec_tildeNumbers.f a0_0 a0_1 a0_2 a0_3 a0_4 a0_5 = some r) :
    Calls Tryd.prog 58 #[.agg #[.int .i64 a0_0, .int .i64 a0_1, .int .u64 a0_2, .int .u64 a0_3, .int .u64 a0_4, .string a0_5]] w fun e w' => e = .returned (.int .i64 r) ∧ Below w.heap.size w w' := by
  have hu24 := Tryd.underlying24
  have HB := Aside0.mk (Below.refl w.heap.size w)
  have H : (some (mn 2 a0_1)) = some r := h
  clear h
  obtain ⟨ji2, hji2⟩ : ∃ j_ : Int, (mn 2 a0_1) = j_ := ⟨_, rfl⟩
  replace H : (some ji2) = some r := by first | (rw [hji2] at H; exact H) | (simp only [hji2] at H ⊢; exact H)
  (try (have hji2h : ji2 ≤ 2 := by (rw [← hji2]; unfold mn; (repeat' split) <;> omega)))
  (try (have hji2g : ji2 ≤ 64 := by omega))
  have hji2_ : (if a0_1 < 2 then a0_1 else 2) = ji2 := hji2
  obtain rfl := Option.some.inj H
  go_enter Tryd.func58, Tryd.ntmps58
  go_wp2_with (first | ((with_reducible refine gate_dst (N := 1) rfl ?_); refine box_event ?hg (N := 1) ?hd (cs := #[.int .i64 a0_0, .int .i64 a0_1, .int .u64 a0_2, .int .u64 a0_3, .int .u64 a0_4, .string a0_5]) (t := 24) ?hr ?_; (case hd => rfl); (case hg => rfl); (case hr => first | (go_simp; done) | (go_simp; rfl) | (go_simp; simp [u8w]; done)); intro gb170 hg w3 hbox hb; have n0_ := Aside0.mk (below_step (by repeat (first | (with_reducible first | exact HB.out | apply below_alloc | apply pw_below_drewN | apply below_drew1) | exact HB.out)) hb); have n1_ := Aside0.mk (hbox); have n2_ := Aside0.mk ((by rw [hg]; exact (below_size (by repeat (first | (with_reducible first | exact HB.out | apply below_alloc | apply pw_below_drewN | apply below_drew1) | exact HB.out))) : w.heap.size ≤ gb170)); have n3_ := Aside0.mk ((by rw [hg]; exact (below_size (by repeat (first | (with_reducible first | exact HB.out | apply below_alloc | apply pw_below_drewN | apply below_drew1) | exact HB.out))) : w.heap.size ≤ gb170)); clear HB; have HB := n0_; have BK170 := n1_; have GW170 := n2_; have GE170 := n3_; clear n0_ n1_ n2_ n3_; clear hb hbox hg; have hcz4_0 : w3.cell? ⟨gb170, 0, none⟩ = some (.int .i64 a0_0) := (blk_cell BK170.out 0).trans rfl; have hcz4_1 : w3.cell? ⟨gb170, 1, none⟩ = some (.int .i64 a0_1) := (blk_cell BK170.out 1).trans rfl; have hcz4_2 : w3.cell? ⟨gb170, 2, none⟩ = some (.int .u64 a0_2) := (blk_cell BK170.out 2).trans rfl; have hcz4_3 : w3.cell? ⟨gb170, 3, none⟩ = some (.int .u64 a0_3) := (blk_cell BK170.out 3).trans rfl; have hcz4_4 : w3.cell? ⟨gb170, 4, none⟩ = some (.int .u64 a0_4) := (blk_cell BK170.out 4).trans rfl; have hcz4_5 : w3.cell? ⟨gb170, 5, none⟩ = some (.string a0_5) := (blk_cell BK170.out 5).trans rfl; have hfz4_0 := blk_frozen BK170.out 0; have hfz4_1 := blk_frozen BK170.out 1; have hfz4_2 := blk_frozen BK170.out 2; have hfz4_3 := blk_frozen BK170.out 3; have hfz4_4 := blk_frozen BK170.out 4; have hfz4_5 := blk_frozen BK170.out 5))
  go_ret
  exact ⟨by first | rfl | (simp [errW_none, errW_some] <;> rfl) | (simp only [← hji2]; first | rfl | (simp [errW_none, errW_some] <;> rfl)) | (simp [*, errW_none, errW_some] <;> rfl) | (simp [bneNil]; done), by repeat (first | (with_reducible first | exact HB.out | apply below_alloc | apply pw_below_drewN | apply below_drew1 | refine below_set ?_ GE170.out) | exact HB.out)⟩

def spec_caretNumbers.l0 : Nat → List Int → Int → Int → Int → Int → Int → Int → Int → ByteArray → Option (Int)
  | 0, _, _, _, _, _, _, _, _, _ => none
  | k + 1, x11, x12, x13, x172000, x172001, x172002, x172003, x172004, x172005 => if x13 < x12 then (if 0 ≤ x13 then (if x13 < (x11.length : Int) then (if (rd x11 x13) = 0 then (spec_caretNumbers.l0 k x11 x12 (wrap64 (x13 + 1)) x172000 x172001 x172002 x172003 x172004 x172005) else (some (wrap64 (x13 + 1)))) else (none)) else (none)) else (some x172001)

def spec_caretNumbers.f (k : Nat) (a0_0 : Int) (a0_1 : Int) (a0_2 : Int) (a0_3 : Int) (a0_4 : Int) (a0_5 : ByteArray) : Option (Int) := (some (([a0_2, a0_3, a0_4] : List Int) : List Int)).bind fun y172 => (spec_caretNumbers.l0 k y172 (y172.length : Int) 0 a0_0 a0_1 a0_2 a0_3 a0_4 a0_5)

theorem spec_caretNumbers.mono_l : ∀ k, (∀ y0 y1 y2 y3 y4 y5 y6 y7 y8, LeO (spec_caretNumbers.l0 k y0 y1 y2 y3 y4 y5 y6 y7 y8) (spec_caretNumbers.l0 (k + 1) y0 y1 y2 y3 y4 y5 y6 y7 y8))
  | 0 => fun _ _ _ _ _ _ _ _ _ r h => by simp [spec_caretNumbers.l0] at h
  | k + 1 => by
    have ih0 := spec_caretNumbers.mono_l k
    · intro y0 y1 y2 y3 y4 y5 y6 y7 y8
      unfold spec_caretNumbers.l0
      repeat' first
      | (with_reducible exact ih0 _ _ _ _ _ _ _ _ _)
      | (with_reducible exact LeO.refl _)
      | (with_reducible exact LeO.none _)
      | (with_reducible refine LeO.ite ?_ ?_)
      | (with_reducible refine LeO.bind ?_ (fun _ => ?_))
      | exact ih0 _ _ _ _ _ _ _ _ _
      | exact LeO.none _
      | refine LeO.ite ?_ ?_
      | refine LeO.bind ?_ (fun _ => ?_)

theorem spec_caretNumbers.mono : ∀ a0 a1 a2 a3 a4 a5 k, LeO (spec_caretNumbers.f k a0 a1 a2 a3 a4 a5) (spec_caretNumbers.f (k + 1) a0 a1 a2 a3 a4 a5) := by
  intro a0 a1 a2 a3 a4 a5 k
  have ih0 := spec_caretNumbers.mono_l k
  unfold spec_caretNumbers.f
  repeat' first
      | (with_reducible exact ih0 _ _ _ _ _ _ _ _ _)
      | (with_reducible exact LeO.refl _)
      | (with_reducible exact LeO.none _)
      | (with_reducible refine LeO.ite ?_ ?_)
      | (with_reducible refine LeO.bind ?_ (fun _ => ?_))
      | exact ih0 _ _ _ _ _ _ _ _ _
      | exact LeO.none _
      | refine LeO.ite ?_ ?_
      | refine LeO.bind ?_ (fun _ => ?_)

set_option maxHeartbeats 80000000 in
set_option maxRecDepth 100000 in
theorem spec_caretNumbers.calls (k : Nat) (a0_0 : Int) (a0_1 : Int) (a0_2 : Int) (a0_3 : Int) (a0_4 : Int) (a0_5 : ByteArray) (r : Int) (w : World) (h : spec_caretNumbers.f k a0_0 a0_1 a0_2 a0_3 a0_4 a0_5 = some r) :
    Calls Tryd.prog 59 #[.agg #[.int .i64 a0_0, .int .i64 a0_1, .int .u64 a0_2, .int .u64 a0_3, .int .u64 a0_4, .string a0_5]] w fun e w' => e = .returned (.int .i64 r) ∧ Below w.heap.size w w' := by
  have hu24 := Tryd.underlying24
  have HB := Aside0.mk (Below.refl w.heap.size w)
  have H : ((some (([a0_2, a0_3, a0_4] : List Int) : List Int)).bind fun y172 => (spec_caretNumbers.l0 k y172 (y172.length : Int) 0 a0_0 a0_1 a0_2 a0_3 a0_4 a0_5)) = some r := h
  clear h
  obtain ⟨y172, hy172⟩ : ∃ y_ : List Int, y_ = (([a0_2, a0_3, a0_4] : List Int)) := ⟨_, rfl⟩
  replace H : (spec_caretNumbers.l0 k y172 (y172.length : Int) 0 a0_0 a0_1 a0_2 a0_3 a0_4 a0_5) = some r := by first | (rw [hy172]; with_reducible exact H) | (have H2_ := (Option.bind_some _ _).symm.trans H; rw [hy172]; with_reducible exact H2_) | (have H2_ := (Option.bind_some _ _).symm.trans H; with_reducible exact H2_) | with_reducible exact H | (rw [hy172]; exact H) | exact H
  have Ny172 := Aside0.mk hy172
  clear hy172
  have H' := Aside0.mk H
  clear H
  go_enter Tryd.func59, Tryd.ntmps59
  go_wp2_with (first | ((with_reducible refine gate_dst (N := 1) rfl ?_); refine box_event ?hg (N := 1) ?hd (cs := #[.int .i64 a0_0, .int .i64 a0_1, .int .u64 a0_2, .int .u64 a0_3, .int .u64 a0_4, .string a0_5]) (t := 24) ?hr ?_; (case hd => rfl); (case hg => rfl); (case hr => first | (go_simp; done) | (go_simp; rfl) | (go_simp; simp [u8w]; done)); intro gb171 hg w2 hbox hb; have n0_ := Aside0.mk (below_step (by repeat (first | (with_reducible first | exact HB.out | apply below_alloc | apply pw_below_drewN | apply below_drew1) | exact HB.out)) hb); have n1_ := Aside0.mk (hbox); have n2_ := Aside0.mk ((by rw [hg]; exact (below_size (by repeat (first | (with_reducible first | exact HB.out | apply below_alloc | apply pw_below_drewN | apply below_drew1) | exact HB.out))) : w.heap.size ≤ gb171)); have n3_ := Aside0.mk ((by rw [hg]; exact (below_size (by repeat (first | (with_reducible first | exact HB.out | apply below_alloc | apply pw_below_drewN | apply below_drew1) | exact HB.out))) : w.heap.size ≤ gb171)); clear HB; have HB := n0_; have BK171 := n1_; have GW171 := n2_; have GE171 := n3_; clear n0_ n1_ n2_ n3_; clear hb hbox hg; have hcz3_0 : w2.cell? ⟨gb171, 0, none⟩ = some (.int .i64 a0_0) := (blk_cell BK171.out 0).trans rfl; have hcz3_1 : w2.cell? ⟨gb171, 1, none⟩ = some (.int .i64 a0_1) := (blk_cell BK171.out 1).trans rfl; have hcz3_2 : w2.cell? ⟨gb171, 2, none⟩ = some (.int .u64 a0_2) := (blk_cell BK171.out 2).trans rfl; have hcz3_3 : w2.cell? ⟨gb171, 3, none⟩ = some (.int .u64 a0_3) := (blk_cell BK171.out 3).trans rfl; have hcz3_4 : w2.cell? ⟨gb171, 4, none⟩ = some (.int .u64 a0_4) := (blk_cell BK171.out 4).trans rfl; have hcz3_5 : w2.cell? ⟨gb171, 5, none⟩ = some (.string a0_5) := (blk_cell BK171.out 5).trans rfl; have hfz3_0 := blk_frozen BK171.out 0; have hfz3_1 := blk_frozen BK171.out 1; have hfz3_2 := blk_frozen BK171.out 2; have hfz3_3 := blk_frozen BK171.out 3; have hfz3_4 := blk_frozen BK171.out 4; have hfz3_5 := blk_frozen BK171.out 5) | ((with_reducible refine gate_dst (N := 11) rfl ?_); refine Kd.R_lit (Kd.int .u64) _ 22 ?hg (N := 11) ?hd (xs := ([a0_2, a0_3, a0_4] : List Int)) (inner := [.int .u64 a0_2, .int .u64 a0_3, .int .u64 a0_4]) (ok := fun _ => True) (okp := fun _ => True) ?hr ?hp (fun _ hk => hk) trivial (Below.refl _ _) (Nat.le_refl _) (by simp) ?_; (case hd => rfl); (case hg => rfl); (case hr => first | (go_simp; done) | (go_simp; rfl) | (go_simp; simp [u8w]; done)); (case hp => exact (Reps.one (show Kd.M (Kd.int .u64) _ _ _ a0_2 [.int .u64 a0_2] from rfl) (Reps.one (show Kd.M (Kd.int .u64) _ _ _ a0_3 [.int .u64 a0_3] from rfl) (Reps.one (show Kd.M (Kd.int .u64) _ _ _ a0_4 [.int .u64 a0_4] from rfl) (Reps.none _ _))))); intro v173 w4 ho5 hb hg_ hnew_; clear hg_ hnew_; (first | rw [← Ny172.out] at ho5 | (simp only [Int.reduceToNat] at ho5; rw [← Ny172.out] at ho5)); have n0_ := Aside0.mk (Kd.R_lower ho5 (below_size (by repeat (first | (with_reducible first | exact HB.out | apply below_alloc | apply pw_below_drewN | apply below_drew1 | refine below_set ?_ GE171.out) | exact HB.out)))); have n1_ := Aside0.mk (blk_below (g := gb171) (o := .cells #[.int .i64 a0_0, .int .i64 a0_1, .int .u64 a0_2, .int .u64 a0_3, .int .u64 a0_4, .string a0_5] 24 (0, 0)) (by (with_reducible repeat (first | refine blk_drewN ?_ _ | refine blk_drew ?_ | refine blk_alloc ?_ _)); exact BK171.out) hb); have n2_ := Aside0.mk (below_step (by repeat (first | (with_reducible first | exact HB.out | apply below_alloc | apply pw_below_drewN | apply below_drew1 | refine below_set ?_ GE171.out) | exact HB.out)) hb); clear BK171; clear HB; have HO174 := n0_; have BK171 := n1_; have HB := n2_; clear n0_ n1_ n2_; clear hb ho5; obtain ⟨Ao6, co6, eo6⟩ := Kd.R_slice HO174.out; subst eo6))
  go_loopg [13] k (fun kq v13 w' => ∃ (x13_1 : Int), v13 = .int .i64 x13_1 ∧ Aside0 (spec_caretNumbers.l0 kq y172 (y172.length : Int) x13_1 a0_0 a0_1 a0_2 a0_3 a0_4 a0_5 = some r) ∧ Aside0 (kq ≤ k) ∧ Aside0 (Kd.R (Kd.int .u64) 22 w' w.heap.size (fun _ => True) (.slice Ao6 y172.length co6) y172) ∧ Aside0 (w'.heap[gb171]? = some (.cells #[.int .i64 a0_0, .int .i64 a0_1, .int .u64 a0_2, .int .u64 a0_3, .int .u64 a0_4, .string a0_5] 24 (0, 0))) ∧ Aside0 (Below w.heap.size w w'))
  case atStart => exact ⟨(0), (by first | rfl | (simp; done) | (simp [*]; done)), H', ⟨Nat.le_refl _⟩, ⟨by (with_reducible repeat (first | apply Kd.R_alloc | apply Kd.R_drewN | apply Kd.R_drew)); exact HO174.out⟩, ⟨by (with_reducible repeat (first | refine blk_drewN ?_ _ | refine blk_drew ?_ | refine blk_alloc ?_ _)); exact BK171.out⟩, ⟨by repeat (first | (with_reducible first | exact HB.out | apply below_alloc | apply pw_below_drewN | apply below_drew1 | refine below_set ?_ GE171.out) | exact HB.out)⟩⟩
  case round =>
    clear H'
    try clear p2
    try clear c5
    try clear hcz3_0
    try clear hcz3_1
    try clear hcz3_2
    try clear hcz3_3
    try clear hcz3_4
    try clear hcz3_5
    try clear hfz3_0
    try clear hfz3_1
    try clear hfz3_2
    try clear hfz3_3
    try clear hfz3_4
    try clear hfz3_5
    obtain ⟨x13_1, rfl, HA, HK1, HO_11, BK171, HB⟩ := hrel
    cases gk with
    | zero => exact absurd HA.out (by simp [spec_caretNumbers.l0])
    | succ k1 =>
      have H := HA.out
      clear HA
      simp only [spec_caretNumbers.l0] at H
      by_cases c7 : x13_1 < (y172.length : Int)
      · rw [if_pos c7] at H
        have c7b0 : decide (x13_1 < (y172.length : Int)) = true := decide_eq_true c7
        clear c7
        by_cases c8 : 0 ≤ x13_1
        · rw [if_pos c8] at H
          have c8b0 : decide (0 ≤ x13_1) = true := decide_eq_true c8
          clear c8
          by_cases c9 : x13_1 < (y172.length : Int)
          · rw [if_pos c9] at H
            have c9b0 : decide (x13_1 < (y172.length : Int)) = true := decide_eq_true c9
            clear c9
            by_cases c10 : (rd y172 x13_1) = 0
            · rw [if_pos c10] at H
              have c10b0 : ((rd y172 x13_1) == 0) = true := beq_iff_eq.mpr c10
              have c10b1 : ((rd y172 x13_1) != 0) = false := bne_eq_false_iff_eq.mpr c10
              clear c10
              have H' := Aside0.mk H
              clear H
              have p175 : 0 ≤ (x13_1 : Int) := of_decide_eq_true (by first | (with_reducible assumption) | assumption)
              have q175 : x13_1 < (y172.length : Int) := of_decide_eq_true (by first | (with_reducible assumption) | assumption)
              obtain ⟨ad175, e175, hx175_0⟩ := Kd.at_int (Kd.R_reads' HO_11.out).2.2 x13_1 p175 q175
              cases e175
              replace p175 := eq_true p175
              replace q175 := eq_true q175
              go_wp2
              go_roundg k1
              case measure => have := HK1.out; omega
              case rel => exact ⟨(wrap64 (x13_1 + 1)), (by first | rfl | (simp; done) | (simp [*]; done)), H', ⟨by have := HK1.out; omega⟩, ⟨by (with_reducible repeat (first | apply Kd.R_alloc | apply Kd.R_drewN | apply Kd.R_drew)); exact HO_11.out⟩, ⟨by (with_reducible repeat (first | refine blk_drewN ?_ _ | refine blk_drew ?_ | refine blk_alloc ?_ _)); exact BK171.out⟩, ⟨by repeat (first | (with_reducible first | exact HB.out | apply below_alloc | apply pw_below_drewN | apply below_drew1 | refine below_set ?_ GE171.out) | exact HB.out)⟩⟩
            · rw [if_neg c10] at H
              have c10b0 : ((rd y172 x13_1) == 0) = false := beq_eq_false_iff_ne.mpr c10
              have c10b1 : ((rd y172 x13_1) != 0) = true := bne_iff_ne.mpr c10
              obtain rfl := Option.some.inj H
              have p175 : 0 ≤ (x13_1 : Int) := of_decide_eq_true (by first | (with_reducible assumption) | assumption)
              have q175 : x13_1 < (y172.length : Int) := of_decide_eq_true (by first | (with_reducible assumption) | assumption)
              obtain ⟨ad175, e175, hx175_0⟩ := Kd.at_int (Kd.R_reads' HO_11.out).2.2 x13_1 p175 q175
              cases e175
              replace p175 := eq_true p175
              replace q175 := eq_true q175
              go_wp2
              go_ret
              exact ⟨by first | rfl | (simp [errW_none, errW_some] <;> rfl) | (simp [*, errW_none, errW_some] <;> rfl) | (simp [bneNil]; done), by repeat (first | (with_reducible first | exact HB.out | apply below_alloc | apply pw_below_drewN | apply below_drew1 | refine below_set ?_ GE171.out) | exact HB.out)⟩
          · rw [if_neg c9] at H
            exact absurd H (by simp)
        · rw [if_neg c8] at H
          exact absurd H (by simp)
      · rw [if_neg c7] at H
        have c7b0 : decide (x13_1 < (y172.length : Int)) = false := decide_eq_false c7
        clear c7
        obtain rfl := Option.some.inj H
        have hcz11_0 : wr.cell? ⟨gb171, 0, none⟩ = some (.int .i64 a0_0) := (blk_cell BK171.out 0).trans rfl
        have hcz11_1 : wr.cell? ⟨gb171, 1, none⟩ = some (.int .i64 a0_1) := (blk_cell BK171.out 1).trans rfl
        have hcz11_2 : wr.cell? ⟨gb171, 2, none⟩ = some (.int .u64 a0_2) := (blk_cell BK171.out 2).trans rfl
        have hcz11_3 : wr.cell? ⟨gb171, 3, none⟩ = some (.int .u64 a0_3) := (blk_cell BK171.out 3).trans rfl
        have hcz11_4 : wr.cell? ⟨gb171, 4, none⟩ = some (.int .u64 a0_4) := (blk_cell BK171.out 4).trans rfl
        have hcz11_5 : wr.cell? ⟨gb171, 5, none⟩ = some (.string a0_5) := (blk_cell BK171.out 5).trans rfl
        have hfz11_0 := blk_frozen BK171.out 0
        have hfz11_1 := blk_frozen BK171.out 1
        have hfz11_2 := blk_frozen BK171.out 2
        have hfz11_3 := blk_frozen BK171.out 3
        have hfz11_4 := blk_frozen BK171.out 4
        have hfz11_5 := blk_frozen BK171.out 5
        go_wp2
        go_ret
        exact ⟨by first | rfl | (simp [errW_none, errW_some] <;> rfl) | (simp [*, errW_none, errW_some] <;> rfl) | (simp [bneNil]; done), by repeat (first | (with_reducible first | exact HB.out | apply below_alloc | apply pw_below_drewN | apply below_drew1 | refine below_set ?_ GE171.out) | exact HB.out)⟩

def spec_Bare.f (a0_0 : Int) (a0_1 : Int) (a0_2 : Int) (a0_3 : ByteArray) (a0_4 : ByteArray) : Option (Int × Int × Int × ByteArray × ByteArray) := some (a0_0, a0_1, a0_2, (⟨#[]⟩ : ByteArray), (⟨#[]⟩ : ByteArray))

set_option maxHeartbeats 80000000 in
set_option maxRecDepth 100000 in
theorem spec_Bare.calls (a0_0 : Int) (a0_1 : Int) (a0_2 : Int) (a0_3 : ByteArray) (a0_4 : ByteArray) (r1 : Int) (r2 : Int) (r3 : Int) (r4 : ByteArray) (r5 : ByteArray) (w : World) (h : spec_Bare.f a0_0 a0_1 a0_2 a0_3 a0_4 = some (r1, r2, r3, r4, r5)) :
    Calls Tryd.prog 41 #[.agg #[.int .u64 a0_0, .int .u64 a0_1, .int .u64 a0_2, .string a0_3, .string a0_4]] w fun e w' => e = .returned (.agg #[.int .u64 r1, .int .u64 r2, .int .u64 r3, .string r4, .string r5]) ∧ Below w.heap.size w w' := by
  have hu26 := Tryd.underlying26
  have HB := Aside0.mk (Below.refl w.heap.size w)
  have H : (some (a0_0, a0_1, a0_2, (⟨#[]⟩ : ByteArray), (⟨#[]⟩ : ByteArray))) = some (r1, r2, r3, r4, r5) := h
  clear h
  simp only [Option.some.injEq, Prod.mk.injEq] at H
  obtain ⟨rfl, rfl, rfl, rfl, rfl⟩ := H
  go_enter Tryd.func41, Tryd.ntmps41
  go_wp2_with (first | ((with_reducible refine gate_dst (N := 1) rfl ?_); refine box_event ?hg (N := 1) ?hd (cs := #[.int .u64 a0_0, .int .u64 a0_1, .int .u64 a0_2, .string a0_3, .string a0_4]) (t := 26) ?hr ?_; (case hd => rfl); (case hg => rfl); (case hr => first | (go_simp; done) | (go_simp; rfl) | (go_simp; simp [u8w]; done)); intro gb207 hg w2 hbox hb; have n0_ := Aside0.mk (below_step (by repeat (first | (with_reducible first | exact HB.out | apply below_alloc | apply pw_below_drewN | apply below_drew1) | exact HB.out)) hb); have n1_ := Aside0.mk (hbox); have n2_ := Aside0.mk ((by rw [hg]; exact (below_size (by repeat (first | (with_reducible first | exact HB.out | apply below_alloc | apply pw_below_drewN | apply below_drew1) | exact HB.out))) : w.heap.size ≤ gb207)); have n3_ := Aside0.mk ((by rw [hg]; exact (below_size (by repeat (first | (with_reducible first | exact HB.out | apply below_alloc | apply pw_below_drewN | apply below_drew1) | exact HB.out))) : w.heap.size ≤ gb207)); clear HB; have HB := n0_; have BK207 := n1_; have GW207 := n2_; have GE207 := n3_; clear n0_ n1_ n2_ n3_; clear hb hbox hg) | ((with_reducible refine gate_dst (N := 2) rfl ?_); refine box_event ?hg (N := 2) ?hd (cs := #[.int .u64 0, .int .u64 0, .int .u64 0, .string (⟨#[]⟩ : ByteArray), .string (⟨#[]⟩ : ByteArray)]) (t := 26) ?hr ?_; (case hd => rfl); (case hg => rfl); (case hr => first | (go_simp; done) | (go_simp; rfl) | (go_simp; simp [u8w]; done)); intro gb208 hg w3 hbox hb; have n0_ := Aside0.mk (blk_below (g := gb207) (o := .cells #[.int .u64 a0_0, .int .u64 a0_1, .int .u64 a0_2, .string a0_3, .string a0_4] 26 (0, 0)) (by (with_reducible repeat (first | refine blk_drewN ?_ _ | refine blk_drew ?_ | refine blk_alloc ?_ _)); exact BK207.out) hb); have n1_ := Aside0.mk (below_step (by repeat (first | (with_reducible first | exact HB.out | apply below_alloc | apply pw_below_drewN | apply below_drew1 | refine below_set ?_ GE207.out) | exact HB.out)) hb); have n2_ := Aside0.mk (hbox); have n3_ := Aside0.mk ((by rw [hg]; exact (below_size (by repeat (first | (with_reducible first | exact HB.out | apply below_alloc | apply pw_below_drewN | apply below_drew1 | refine below_set ?_ GE207.out) | exact HB.out))) : w.heap.size ≤ gb208)); have n4_ := Aside0.mk ((by rw [hg]; exact (below_size (by repeat (first | (with_reducible first | exact HB.out | apply below_alloc | apply pw_below_drewN | apply below_drew1 | refine below_set ?_ GE207.out) | exact HB.out))) : w.heap.size ≤ gb208)); have n5_ := Aside0.mk ((by rw [hg]; exact Nat.ne_of_lt (blk_lt (g := gb207) (o := .cells #[.int .u64 a0_0, .int .u64 a0_1, .int .u64 a0_2, .string a0_3, .string a0_4] 26 (0, 0)) (by (with_reducible repeat (first | refine blk_drewN ?_ _ | refine blk_drew ?_ | refine blk_alloc ?_ _)); exact BK207.out)) : gb207 ≠ gb208)); have n6_ := Aside0.mk ((by rw [hg]; exact Nat.ne_of_gt (blk_lt (g := gb207) (o := .cells #[.int .u64 a0_0, .int .u64 a0_1, .int .u64 a0_2, .string a0_3, .string a0_4] 26 (0, 0)) (by (with_reducible repeat (first | refine blk_drewN ?_ _ | refine blk_drew ?_ | refine blk_alloc ?_ _)); exact BK207.out)) : gb208 ≠ gb207)); clear BK207; clear HB; have BK207 := n0_; have HB := n1_; have BK208 := n2_; have GW208 := n3_; have GE208 := n4_; have NB207_208 := n5_; have NB208_207 := n6_; clear n0_ n1_ n2_ n3_ n4_ n5_ n6_; clear hb hbox hg; have hnb4 := NB207_208.out; have hnc4 := NB208_207.out; have hcz5_0 : w3.cell? ⟨gb207, 0, none⟩ = some (.int .u64 a0_0) := (blk_cell BK207.out 0).trans rfl; have hcz5_1 : w3.cell? ⟨gb207, 1, none⟩ = some (.int .u64 a0_1) := (blk_cell BK207.out 1).trans rfl; have hcz5_2 : w3.cell? ⟨gb207, 2, none⟩ = some (.int .u64 a0_2) := (blk_cell BK207.out 2).trans rfl; have hcz5_3 : w3.cell? ⟨gb207, 3, none⟩ = some (.string a0_3) := (blk_cell BK207.out 3).trans rfl; have hcz5_4 : w3.cell? ⟨gb207, 4, none⟩ = some (.string a0_4) := (blk_cell BK207.out 4).trans rfl; have hfz5_0 := blk_frozen BK207.out 0; have hfz5_1 := blk_frozen BK207.out 1; have hfz5_2 := blk_frozen BK207.out 2; have hfz5_3 := blk_frozen BK207.out 3; have hfz5_4 := blk_frozen BK207.out 4; have hcz6_0 : w3.cell? ⟨gb208, 0, none⟩ = some (.int .u64 0) := (blk_cell BK208.out 0).trans rfl; have hcz6_1 : w3.cell? ⟨gb208, 1, none⟩ = some (.int .u64 0) := (blk_cell BK208.out 1).trans rfl; have hcz6_2 : w3.cell? ⟨gb208, 2, none⟩ = some (.int .u64 0) := (blk_cell BK208.out 2).trans rfl; have hcz6_3 : w3.cell? ⟨gb208, 3, none⟩ = some (.string (⟨#[]⟩ : ByteArray)) := (blk_cell BK208.out 3).trans rfl; have hcz6_4 : w3.cell? ⟨gb208, 4, none⟩ = some (.string (⟨#[]⟩ : ByteArray)) := (blk_cell BK208.out 4).trans rfl; have hfz6_0 := blk_frozen BK208.out 0; have hfz6_1 := blk_frozen BK208.out 1; have hfz6_2 := blk_frozen BK208.out 2; have hfz6_3 := blk_frozen BK208.out 3; have hfz6_4 := blk_frozen BK208.out 4))
  refine bodyPost_ret (results_cell_row rfl _ _ gb208 26 #[.int .u64 a0_0, .int .u64 a0_1, .int .u64 a0_2, .string (⟨#[]⟩ : ByteArray), .string (⟨#[]⟩ : ByteArray)] (0, 0) _ rfl (by (with_reducible repeat (first | refine blk_drewN ?_ _ | refine blk_drew ?_ | refine blk_alloc ?_ _)); refine blk_put (cs := #[.int .u64 a0_0, .int .u64 a0_1, .int .u64 a0_2, .string (⟨#[]⟩ : ByteArray), .string (⟨#[]⟩ : ByteArray)]) ?_ 4 _ rfl; (with_reducible repeat (first | refine blk_drewN ?_ _ | refine blk_drew ?_ | refine blk_alloc ?_ _)); refine blk_put (cs := #[.int .u64 a0_0, .int .u64 a0_1, .int .u64 a0_2, .string (⟨#[]⟩ : ByteArray), .string (⟨#[]⟩ : ByteArray)]) ?_ 3 _ rfl; (with_reducible repeat (first | refine blk_drewN ?_ _ | refine blk_drew ?_ | refine blk_alloc ?_ _)); refine blk_put (cs := #[.int .u64 a0_0, .int .u64 a0_1, .int .u64 0, .string (⟨#[]⟩ : ByteArray), .string (⟨#[]⟩ : ByteArray)]) ?_ 2 _ rfl; (with_reducible repeat (first | refine blk_drewN ?_ _ | refine blk_drew ?_ | refine blk_alloc ?_ _)); refine blk_put (cs := #[.int .u64 a0_0, .int .u64 0, .int .u64 0, .string (⟨#[]⟩ : ByteArray), .string (⟨#[]⟩ : ByteArray)]) ?_ 1 _ rfl; (with_reducible repeat (first | refine blk_drewN ?_ _ | refine blk_drew ?_ | refine blk_alloc ?_ _)); refine blk_put (cs := #[.int .u64 0, .int .u64 0, .int .u64 0, .string (⟨#[]⟩ : ByteArray), .string (⟨#[]⟩ : ByteArray)]) ?_ 0 _ rfl; (with_reducible repeat (first | refine blk_drewN ?_ _ | refine blk_drew ?_ | refine blk_alloc ?_ _)); exact BK208.out) Tryd.underlying26 rfl (by kernel_rfl)) rfl ?_
  exact ⟨by first | rfl | (simp [errW_none, errW_some] <;> rfl) | (simp [*, errW_none, errW_some] <;> rfl) | (simp [bneNil]; done), by repeat (first | (with_reducible first | exact HB.out | apply below_alloc | apply pw_below_drewN | apply below_drew1 | refine below_set ?_ GE207.out | refine below_set ?_ GE208.out) | exact HB.out)⟩

def laws_stBare.f (a0_0 : Int) (a0_1 : Int) (a0_2 : Int) (a0_3 : ByteArray) (a0_4 : ByteArray) (a1_0 : Int) (a1_1 : Int) (a1_2 : Int) (a1_3 : ByteArray) (a1_4 : ByteArray) (a2 : Int) : Option (Int × Int × Int × ByteArray × ByteArray × Int × Int × Int × ByteArray × ByteArray × Bool) := (spec_Bare.f a0_0 a0_1 a0_2 a0_3 a0_4).bind fun bt213 => ((spec_Bare.f a1_0 a1_1 a1_2 a1_3 a1_4).bind fun bt218 => (if a2 ≥ 1 then (some (bt213.1, bt213.2.1, bt213.2.2.1, bt213.2.2.2.1, bt213.2.2.2.2, bt218.1, bt218.2.1, bt218.2.2.1, bt218.2.2.2.1, bt218.2.2.2.2, decide (a2 ≤ 3))) else (some (bt213.1, bt213.2.1, bt213.2.2.1, bt213.2.2.2.1, bt213.2.2.2.2, bt218.1, bt218.2.1, bt218.2.2.1, bt218.2.2.2.1, bt218.2.2.2.2, false))))

def laws_stBare.T1 : Bool × List (List Nat × List Nat) := (true, [([], []), ([0], [0]), ([], []), ([2, 1], [2]), ([], []), ([4], [4]), ([5, 3], [5]), ([6], [6]), ([7, 6], [6, 7]), ([6, 8], [6, 8]), ([1, 6, 0, 1], [1]), ([3, 10, 0, 1, 2, 3, 10], [3]), ([9, 11, 0, 1, 2, 3, 4, 5, 6, 7, 8, 9, 10, 11], [9])])

def laws_stBare.B1 : List Nat := [0, 1, 0, 7, 0, 16, 63, 127, 255, 511, 127, 1151, 4095]

theorem laws_stBare.tab1 : rtab .any (opsOf Tryd.f20 1) = laws_stBare.T1 := by kernel_rfl

theorem laws_stBare.bits1 : waitsOk laws_stBare.T1.2 laws_stBare.B1 = true := by kernel_rfl

set_option maxHeartbeats 80000000 in
set_option maxRecDepth 100000 in
theorem laws_stBare.calls (a0_0 : Int) (a0_1 : Int) (a0_2 : Int) (a0_3 : ByteArray) (a0_4 : ByteArray) (a1_0 : Int) (a1_1 : Int) (a1_2 : Int) (a1_3 : ByteArray) (a1_4 : ByteArray) (a2 : Int) (r1 : Int) (r2 : Int) (r3 : Int) (r4 : ByteArray) (r5 : ByteArray) (r6 : Int) (r7 : Int) (r8 : Int) (r9 : ByteArray) (r10 : ByteArray) (r11 : Bool) (w : World) (h : laws_stBare.f a0_0 a0_1 a0_2 a0_3 a0_4 a1_0 a1_1 a1_2 a1_3 a1_4 a2 = some (r1, r2, r3, r4, r5, r6, r7, r8, r9, r10, r11)) :
    Calls Tryd.prog 20 #[.agg #[.int .u64 a0_0, .int .u64 a0_1, .int .u64 a0_2, .string a0_3, .string a0_4], .agg #[.int .u64 a1_0, .int .u64 a1_1, .int .u64 a1_2, .string a1_3, .string a1_4], .int .i64 a2] w fun e w' => e = .returned (.tuple #[.agg #[.int .u64 r1, .int .u64 r2, .int .u64 r3, .string r4, .string r5], .agg #[.int .u64 r6, .int .u64 r7, .int .u64 r8, .string r9, .string r10], .bool r11]) ∧ Below w.heap.size w w' := by
  have hu26 := Tryd.underlying26
  have HB := Aside0.mk (Below.refl w.heap.size w)
  have H : ((spec_Bare.f a0_0 a0_1 a0_2 a0_3 a0_4).bind fun bt213 => ((spec_Bare.f a1_0 a1_1 a1_2 a1_3 a1_4).bind fun bt218 => (if a2 ≥ 1 then (some (bt213.1, bt213.2.1, bt213.2.2.1, bt213.2.2.2.1, bt213.2.2.2.2, bt218.1, bt218.2.1, bt218.2.2.1, bt218.2.2.2.1, bt218.2.2.2.2, decide (a2 ≤ 3))) else (some (bt213.1, bt213.2.1, bt213.2.2.1, bt213.2.2.2.1, bt213.2.2.2.2, bt218.1, bt218.2.1, bt218.2.2.1, bt218.2.2.2.1, bt218.2.2.2.2, false))))) = some (r1, r2, r3, r4, r5, r6, r7, r8, r9, r10, r11) := h
  clear h
  replace H := Option.bind_eq_some_iff.mp H
  obtain ⟨⟨t213, t214, t215, t216, t217⟩, A40, H⟩ := H
  replace H : ((spec_Bare.f a1_0 a1_1 a1_2 a1_3 a1_4).bind fun bt218 => (if a2 ≥ 1 then (some (t213, t214, t215, t216, t217, bt218.1, bt218.2.1, bt218.2.2.1, bt218.2.2.2.1, bt218.2.2.2.2, decide (a2 ≤ 3))) else (some (t213, t214, t215, t216, t217, bt218.1, bt218.2.1, bt218.2.2.1, bt218.2.2.2.1, bt218.2.2.2.2, false)))) = some (r1, r2, r3, r4, r5, r6, r7, r8, r9, r10, r11) := H
  have A4 := Aside0.mk A40
  clear A40
  replace H := Option.bind_eq_some_iff.mp H
  obtain ⟨⟨t218, t219, t220, t221, t222⟩, A50, H⟩ := H
  replace H : (if a2 ≥ 1 then (some (t213, t214, t215, t216, t217, t218, t219, t220, t221, t222, decide (a2 ≤ 3))) else (some (t213, t214, t215, t216, t217, t218, t219, t220, t221, t222, false))) = some (r1, r2, r3, r4, r5, r6, r7, r8, r9, r10, r11) := H
  have A5 := Aside0.mk A50
  clear A50
  by_cases c6 : a2 ≥ 1
  · rw [if_pos c6] at H
    have c6b0 : decide (1 ≤ a2) = true := decide_eq_true c6
    clear c6
    simp only [Option.some.injEq, Prod.mk.injEq] at H
    obtain ⟨rfl, rfl, rfl, rfl, rfl, rfl, rfl, rfl, rfl, rfl, rfl⟩ := H
    go_enter Tryd.func20, Tryd.ntmps20
    try go_wp2_with (first | ((with_reducible refine gate_dst (N := 3) rfl ?_); refine box_event ?hg (N := 3) ?hd (cs := #[.int .u64 a0_0, .int .u64 a0_1, .int .u64 a0_2, .string a0_3, .string a0_4]) (t := 26) ?hr ?_; (case hd => rfl); (case hg => rfl); (case hr => first | (go_simp; done) | (go_simp; rfl) | (go_simp; simp [u8w]; done)); intro gb209 hg w7 hbox hb; have n0_ := Aside0.mk (below_step (by repeat (first | (with_reducible first | exact HB.out | apply below_alloc | apply pw_below_drewN | apply below_drew1) | exact HB.out)) hb); have n1_ := Aside0.mk (hbox); have n2_ := Aside0.mk ((by rw [hg]; exact (below_size (by repeat (first | (with_reducible first | exact HB.out | apply below_alloc | apply pw_below_drewN | apply below_drew1) | exact HB.out))) : w.heap.size ≤ gb209)); have n3_ := Aside0.mk ((by rw [hg]; exact (below_size (by repeat (first | (with_reducible first | exact HB.out | apply below_alloc | apply pw_below_drewN | apply below_drew1) | exact HB.out))) : w.heap.size ≤ gb209)); clear HB; have HB := n0_; have BK209 := n1_; have GW209 := n2_; have GE209 := n3_; clear n0_ n1_ n2_ n3_; clear hb hbox hg) | ((with_reducible refine gate_dst (N := 4) rfl ?_); refine box_event ?hg (N := 4) ?hd (cs := #[.int .u64 a1_0, .int .u64 a1_1, .int .u64 a1_2, .string a1_3, .string a1_4]) (t := 26) ?hr ?_; (case hd => rfl); (case hg => rfl); (case hr => first | (go_simp; done) | (go_simp; rfl) | (go_simp; simp [u8w]; done)); intro gb210 hg w8 hbox hb; have n0_ := Aside0.mk (blk_below (g := gb209) (o := .cells #[.int .u64 a0_0, .int .u64 a0_1, .int .u64 a0_2, .string a0_3, .string a0_4] 26 (0, 0)) (by (with_reducible repeat (first | refine blk_drewN ?_ _ | refine blk_drew ?_ | refine blk_alloc ?_ _)); exact BK209.out) hb); have n1_ := Aside0.mk (below_step (by repeat (first | (with_reducible first | exact HB.out | apply below_alloc | apply pw_below_drewN | apply below_drew1 | refine below_set ?_ GE209.out) | exact HB.out)) hb); have n2_ := Aside0.mk (hbox); have n3_ := Aside0.mk ((by rw [hg]; exact (below_size (by repeat (first | (with_reducible first | exact HB.out | apply below_alloc | apply pw_below_drewN | apply below_drew1 | refine below_set ?_ GE209.out) | exact HB.out))) : w.heap.size ≤ gb210)); have n4_ := Aside0.mk ((by rw [hg]; exact (below_size (by repeat (first | (with_reducible first | exact HB.out | apply below_alloc | apply pw_below_drewN | apply below_drew1 | refine below_set ?_ GE209.out) | exact HB.out))) : w.heap.size ≤ gb210)); have n5_ := Aside0.mk ((by rw [hg]; exact Nat.ne_of_lt (blk_lt (g := gb209) (o := .cells #[.int .u64 a0_0, .int .u64 a0_1, .int .u64 a0_2, .string a0_3, .string a0_4] 26 (0, 0)) (by (with_reducible repeat (first | refine blk_drewN ?_ _ | refine blk_drew ?_ | refine blk_alloc ?_ _)); exact BK209.out)) : gb209 ≠ gb210)); have n6_ := Aside0.mk ((by rw [hg]; exact Nat.ne_of_gt (blk_lt (g := gb209) (o := .cells #[.int .u64 a0_0, .int .u64 a0_1, .int .u64 a0_2, .string a0_3, .string a0_4] 26 (0, 0)) (by (with_reducible repeat (first | refine blk_drewN ?_ _ | refine blk_drew ?_ | refine blk_alloc ?_ _)); exact BK209.out)) : gb210 ≠ gb209)); clear BK209; clear HB; have BK209 := n0_; have HB := n1_; have BK210 := n2_; have GW210 := n3_; have GE210 := n4_; have NB209_210 := n5_; have NB210_209 := n6_; clear n0_ n1_ n2_ n3_ n4_ n5_ n6_; clear hb hbox hg) | ((with_reducible refine gate_dst (N := 6) rfl ?_); refine box_event ?hg (N := 6) ?hd (cs := #[.int .u64 0, .int .u64 0, .int .u64 0, .string (⟨#[]⟩ : ByteArray), .string (⟨#[]⟩ : ByteArray)]) (t := 26) ?hr ?_; (case hd => rfl); (case hg => rfl); (case hr => first | (go_simp; done) | (go_simp; rfl) | (go_simp; simp [u8w]; done)); intro gb211 hg w9 hbox hb; have n0_ := Aside0.mk (blk_below (g := gb209) (o := .cells #[.int .u64 a0_0, .int .u64 a0_1, .int .u64 a0_2, .string a0_3, .string a0_4] 26 (0, 0)) (by (with_reducible repeat (first | refine blk_drewN ?_ _ | refine blk_drew ?_ | refine blk_alloc ?_ _)); exact BK209.out) hb); have n1_ := Aside0.mk (blk_below (g := gb210) (o := .cells #[.int .u64 a1_0, .int .u64 a1_1, .int .u64 a1_2, .string a1_3, .string a1_4] 26 (0, 0)) (by (with_reducible repeat (first | refine blk_drewN ?_ _ | refine blk_drew ?_ | refine blk_alloc ?_ _)); exact BK210.out) hb); have n2_ := Aside0.mk (below_step (by repeat (first | (with_reducible first | exact HB.out | apply below_alloc | apply pw_below_drewN | apply below_drew1 | refine below_set ?_ GE209.out | refine below_set ?_ GE210.out) | exact HB.out)) hb); have n3_ := Aside0.mk (hbox); have n4_ := Aside0.mk ((by rw [hg]; exact (below_size (by repeat (first | (with_reducible first | exact HB.out | apply below_alloc | apply pw_below_drewN | apply below_drew1 | refine below_set ?_ GE209.out | refine below_set ?_ GE210.out) | exact HB.out))) : w.heap.size ≤ gb211)); have n5_ := Aside0.mk ((by rw [hg]; exact (below_size (by repeat (first | (with_reducible first | exact HB.out | apply below_alloc | apply pw_below_drewN | apply below_drew1 | refine below_set ?_ GE209.out | refine below_set ?_ GE210.out) | exact HB.out))) : w.heap.size ≤ gb211)); have n6_ := Aside0.mk ((by rw [hg]; exact Nat.ne_of_lt (blk_lt (g := gb209) (o := .cells #[.int .u64 a0_0, .int .u64 a0_1, .int .u64 a0_2, .string a0_3, .string a0_4] 26 (0, 0)) (by (with_reducible repeat (first | refine blk_drewN ?_ _ | refine blk_drew ?_ | refine blk_alloc ?_ _)); exact BK209.out)) : gb209 ≠ gb211)); have n7_ := Aside0.mk ((by rw [hg]; exact Nat.ne_of_gt (blk_lt (g := gb209) (o := .cells #[.int .u64 a0_0, .int .u64 a0_1, .int .u64 a0_2, .string a0_3, .string a0_4] 26 (0, 0)) (by (with_reducible repeat (first | refine blk_drewN ?_ _ | refine blk_drew ?_ | refine blk_alloc ?_ _)); exact BK209.out)) : gb211 ≠ gb209)); have n8_ := Aside0.mk ((by rw [hg]; exact Nat.ne_of_lt (blk_lt (g := gb210) (o := .cells #[.int .u64 a1_0, .int .u64 a1_1, .int .u64 a1_2, .string a1_3, .string a1_4] 26 (0, 0)) (by (with_reducible repeat (first | refine blk_drewN ?_ _ | refine blk_drew ?_ | refine blk_alloc ?_ _)); exact BK210.out)) : gb210 ≠ gb211)); have n9_ := Aside0.mk ((by rw [hg]; exact Nat.ne_of_gt (blk_lt (g := gb210) (o := .cells #[.int .u64 a1_0, .int .u64 a1_1, .int .u64 a1_2, .string a1_3, .string a1_4] 26 (0, 0)) (by (with_reducible repeat (first | refine blk_drewN ?_ _ | refine blk_drew ?_ | refine blk_alloc ?_ _)); exact BK210.out)) : gb211 ≠ gb210)); clear BK209; clear BK210; clear HB; have BK209 := n0_; have BK210 := n1_; have HB := n2_; have BK211 := n3_; have GW211 := n4_; have GE211 := n5_; have NB209_211 := n6_; have NB211_209 := n7_; have NB210_211 := n8_; have NB211_210 := n9_; clear n0_ n1_ n2_ n3_ n4_ n5_ n6_ n7_ n8_ n9_; clear hb hbox hg) | ((with_reducible refine gate_dst (N := 7) rfl ?_); refine box_event ?hg (N := 7) ?hd (cs := #[.int .u64 0, .int .u64 0, .int .u64 0, .string (⟨#[]⟩ : ByteArray), .string (⟨#[]⟩ : ByteArray)]) (t := 26) ?hr ?_; (case hd => rfl); (case hg => rfl); (case hr => first | (go_simp; done) | (go_simp; rfl) | (go_simp; simp [u8w]; done)); intro gb212 hg w10 hbox hb; have n0_ := Aside0.mk (blk_below (g := gb209) (o := .cells #[.int .u64 a0_0, .int .u64 a0_1, .int .u64 a0_2, .string a0_3, .string a0_4] 26 (0, 0)) (by (with_reducible repeat (first | refine blk_drewN ?_ _ | refine blk_drew ?_ | refine blk_alloc ?_ _)); exact BK209.out) hb); have n1_ := Aside0.mk (blk_below (g := gb210) (o := .cells #[.int .u64 a1_0, .int .u64 a1_1, .int .u64 a1_2, .string a1_3, .string a1_4] 26 (0, 0)) (by (with_reducible repeat (first | refine blk_drewN ?_ _ | refine blk_drew ?_ | refine blk_alloc ?_ _)); exact BK210.out) hb); have n2_ := Aside0.mk (blk_below (g := gb211) (o := .cells #[.int .u64 0, .int .u64 0, .int .u64 0, .string (⟨#[]⟩ : ByteArray), .string (⟨#[]⟩ : ByteArray)] 26 (0, 0)) (by (with_reducible repeat (first | refine blk_drewN ?_ _ | refine blk_drew ?_ | refine blk_alloc ?_ _)); exact BK211.out) hb); have n3_ := Aside0.mk (below_step (by repeat (first | (with_reducible first | exact HB.out | apply below_alloc | apply pw_below_drewN | apply below_drew1 | refine below_set ?_ GE209.out | refine below_set ?_ GE210.out | refine below_set ?_ GE211.out) | exact HB.out)) hb); have n4_ := Aside0.mk (hbox); have n5_ := Aside0.mk ((by rw [hg]; exact (below_size (by repeat (first | (with_reducible first | exact HB.out | apply below_alloc | apply pw_below_drewN | apply below_drew1 | refine below_set ?_ GE209.out | refine below_set ?_ GE210.out | refine below_set ?_ GE211.out) | exact HB.out))) : w.heap.size ≤ gb212)); have n6_ := Aside0.mk ((by rw [hg]; exact (below_size (by repeat (first | (with_reducible first | exact HB.out | apply below_alloc | apply pw_below_drewN | apply below_drew1 | refine below_set ?_ GE209.out | refine below_set ?_ GE210.out | refine below_set ?_ GE211.out) | exact HB.out))) : w.heap.size ≤ gb212)); have n7_ := Aside0.mk ((by rw [hg]; exact Nat.ne_of_lt (blk_lt (g := gb209) (o := .cells #[.int .u64 a0_0, .int .u64 a0_1, .int .u64 a0_2, .string a0_3, .string a0_4] 26 (0, 0)) (by (with_reducible repeat (first | refine blk_drewN ?_ _ | refine blk_drew ?_ | refine blk_alloc ?_ _)); exact BK209.out)) : gb209 ≠ gb212)); have n8_ := Aside0.mk ((by rw [hg]; exact Nat.ne_of_gt (blk_lt (g := gb209) (o := .cells #[.int .u64 a0_0, .int .u64 a0_1, .int .u64 a0_2, .string a0_3, .string a0_4] 26 (0, 0)) (by (with_reducible repeat (first | refine blk_drewN ?_ _ | refine blk_drew ?_ | refine blk_alloc ?_ _)); exact BK209.out)) : gb212 ≠ gb209)); have n9_ := Aside0.mk ((by rw [hg]; exact Nat.ne_of_lt (blk_lt (g := gb210) (o := .cells #[.int .u64 a1_0, .int .u64 a1_1, .int .u64 a1_2, .string a1_3, .string a1_4] 26 (0, 0)) (by (with_reducible repeat (first | refine blk_drewN ?_ _ | refine blk_drew ?_ | refine blk_alloc ?_ _)); exact BK210.out)) : gb210 ≠ gb212)); have n10_ := Aside0.mk ((by rw [hg]; exact Nat.ne_of_gt (blk_lt (g := gb210) (o := .cells #[.int .u64 a1_0, .int .u64 a1_1, .int .u64 a1_2, .string a1_3, .string a1_4] 26 (0, 0)) (by (with_reducible repeat (first | refine blk_drewN ?_ _ | refine blk_drew ?_ | refine blk_alloc ?_ _)); exact BK210.out)) : gb212 ≠ gb210)); have n11_ := Aside0.mk ((by rw [hg]; exact Nat.ne_of_lt (blk_lt (g := gb211) (o := .cells #[.int .u64 0, .int .u64 0, .int .u64 0, .string (⟨#[]⟩ : ByteArray), .string (⟨#[]⟩ : ByteArray)] 26 (0, 0)) (by (with_reducible repeat (first | refine blk_drewN ?_ _ | refine blk_drew ?_ | refine blk_alloc ?_ _)); exact BK211.out)) : gb211 ≠ gb212)); have n12_ := Aside0.mk ((by rw [hg]; exact Nat.ne_of_gt (blk_lt (g := gb211) (o := .cells #[.int .u64 0, .int .u64 0, .int .u64 0, .string (⟨#[]⟩ : ByteArray), .string (⟨#[]⟩ : ByteArray)] 26 (0, 0)) (by (with_reducible repeat (first | refine blk_drewN ?_ _ | refine blk_drew ?_ | refine blk_alloc ?_ _)); exact BK211.out)) : gb212 ≠ gb211)); clear BK209; clear BK210; clear BK211; clear HB; have BK209 := n0_; have BK210 := n1_; have BK211 := n2_; have HB := n3_; have BK212 := n4_; have GW212 := n5_; have GE212 := n6_; have NB209_212 := n7_; have NB212_209 := n8_; have NB210_212 := n9_; have NB212_210 := n10_; have NB211_212 := n11_; have NB212_211 := n12_; clear n0_ n1_ n2_ n3_ n4_ n5_ n6_ n7_ n8_ n9_ n10_ n11_ n12_; clear hb hbox hg))
    have n0_ := Aside0.mk (blk_drew BK209.out)
    have n1_ := Aside0.mk (blk_drew BK210.out)
    have n2_ := Aside0.mk (blk_drew BK211.out)
    have n3_ := Aside0.mk (blk_drew BK212.out)
    have n4_ := Aside0.mk (below_drew1 HB.out)
    clear BK209
    clear BK210
    clear BK211
    clear BK212
    clear HB
    have BK209 := n0_
    have BK210 := n1_
    have BK211 := n2_
    have BK212 := n3_
    have HB := n4_
    clear n0_ n1_ n2_ n3_ n4_
    refine start_ (n := 13) (S := fun w' => w'.cell? ⟨gb209, 0, none⟩ = some (.int .u64 a0_0) ∧ w'.cell? ⟨gb209, 1, none⟩ = some (.int .u64 a0_1) ∧ w'.cell? ⟨gb209, 2, none⟩ = some (.int .u64 a0_2) ∧ w'.cell? ⟨gb209, 3, none⟩ = some (.string a0_3) ∧ w'.cell? ⟨gb209, 4, none⟩ = some (.string a0_4) ∧ w'.cell? ⟨gb210, 0, none⟩ = some (.int .u64 a1_0) ∧ w'.cell? ⟨gb210, 1, none⟩ = some (.int .u64 a1_1) ∧ w'.cell? ⟨gb210, 2, none⟩ = some (.int .u64 a1_2) ∧ w'.cell? ⟨gb210, 3, none⟩ = some (.string a1_3) ∧ w'.cell? ⟨gb210, 4, none⟩ = some (.string a1_4)) (ds := []) #[false, false, false, false, false, false, false, false, false, false, false, false, false] (by kernel_rfl) rfl rfl ⟨(blk_cell BK209.out 0).trans rfl, (blk_cell BK209.out 1).trans rfl, (blk_cell BK209.out 2).trans rfl, (blk_cell BK209.out 3).trans rfl, (blk_cell BK209.out 4).trans rfl, (blk_cell BK210.out 0).trans rfl, (blk_cell BK210.out 1).trans rfl, (blk_cell BK210.out 2).trans rfl, (blk_cell BK210.out 3).trans rfl, (blk_cell BK210.out 4).trans rfl⟩ (fun hHeld => ?_); refine with_tabW laws_stBare.tab1 laws_stBare.bits1 (fun HT_ HW_ => ?_)
    generalize w10.drew = w11 at BK209 BK210 BK211 BK212 HB hHeld ⊢
    refine pure_ (i := 4) (N := some 13) (v := ?_) (a' := ?_) #[false, false, false, false, true, false, false, false, false, false, false, false, false] rfl rfl (any_of HT_.out (by kernel_rfl)) (fun _ _ _ h => h) (Or.inl ⟨by rfl, ?_⟩) ?_ ?_
    rotate_left
    · intro w'
      go_simp
      with_reducible rfl
    rotate_left
    · simp only [Act.put, List.setIfInBounds_toArray, List.set_cons_zero, List.set_cons_succ, i64_w, i32_w]
      rfl
    refine pure_ (i := 5) (N := some 14) (v := ?_) (a' := ?_) #[false, false, false, false, true, true, false, false, false, false, false, false, false] rfl rfl (any_of HT_.out (by kernel_rfl)) (fun _ _ _ h => h) (Or.inl ⟨by rfl, ?_⟩) ?_ ?_
    rotate_left
    · intro w'
      go_simp
      with_reducible rfl
    rotate_left
    · simp only [Act.put, List.setIfInBounds_toArray, List.set_cons_zero, List.set_cons_succ, i64_w, i32_w]
      rfl
    refine take_ (i := 0) (N := some 9) (v := ?_) (a' := ?_) #[true, false, false, false, true, true, false, false, false, false, false, false, false] rfl rfl (take_ofW HT_.out HW_.out (by kernel_rfl)) (fun _ _ _ h => h) (Or.inl ⟨by rfl, ?_⟩) hHeld ?_ ?_
    rotate_left
    · rintro w' ⟨s0, s1, s2, s3, s4, s5, s6, s7, s8, s9⟩
      go_simp
      with_reducible rfl
    rotate_left
    · simp only [Act.put, List.setIfInBounds_toArray, List.set_cons_zero, List.set_cons_succ, i64_w, i32_w]
      rfl
    refine take_ (i := 2) (N := some 11) (v := ?_) (a' := ?_) #[true, false, true, false, true, true, false, false, false, false, false, false, false] rfl rfl (take_ofW HT_.out HW_.out (by kernel_rfl)) (fun _ _ _ h => h) (Or.inl ⟨by rfl, ?_⟩) hHeld ?_ ?_
    rotate_left
    · rintro w' ⟨s0, s1, s2, s3, s4, s5, s6, s7, s8, s9⟩
      go_simp
      with_reducible rfl
    rotate_left
    · simp only [Act.put, List.setIfInBounds_toArray, List.set_cons_zero, List.set_cons_succ, i64_w, i32_w]
      rfl
    refine one_ (i := 1) (N := some 10) #[true, true, true, false, true, true, false, false, false, false, false, false, false] rfl rfl (one_of HT_.out (by kernel_rfl)) (by decide) (fun K hK => ?_)
    refine goes_ Tryd.func41 (by kernel_rfl) rfl #[.agg #[.int .u64 a0_0, .int .u64 a0_1, .int .u64 a0_2, .string a0_3, .string a0_4]] (by rfl) rfl rfl (by (try simp only [List.map_toArray, List.map_cons, List.map_nil]); first | done | rfl | (simp only [List.length_drop, List.length_take]; rfl)) ?_
    with_reducible refine (spec_Bare.calls a0_0 a0_1 a0_2 a0_3 a0_4 t213 t214 t215 t216 t217 _ A4.out).mono ?_
    rintro e w12 ⟨rfl, hb⟩
    refine ⟨_, rfl, ?_⟩
    have n0_ := Aside0.mk (blk_below (g := gb209) (o := .cells #[.int .u64 a0_0, .int .u64 a0_1, .int .u64 a0_2, .string a0_3, .string a0_4] 26 (0, 0)) (by (with_reducible repeat (first | refine blk_drewN ?_ _ | refine blk_drew ?_ | refine blk_alloc ?_ _)); exact BK209.out) hb)
    have n1_ := Aside0.mk (blk_below (g := gb210) (o := .cells #[.int .u64 a1_0, .int .u64 a1_1, .int .u64 a1_2, .string a1_3, .string a1_4] 26 (0, 0)) (by (with_reducible repeat (first | refine blk_drewN ?_ _ | refine blk_drew ?_ | refine blk_alloc ?_ _)); exact BK210.out) hb)
    have n2_ := Aside0.mk (blk_below (g := gb211) (o := .cells #[.int .u64 0, .int .u64 0, .int .u64 0, .string (⟨#[]⟩ : ByteArray), .string (⟨#[]⟩ : ByteArray)] 26 (0, 0)) (by (with_reducible repeat (first | refine blk_drewN ?_ _ | refine blk_drew ?_ | refine blk_alloc ?_ _)); exact BK211.out) hb)
    have n3_ := Aside0.mk (blk_below (g := gb212) (o := .cells #[.int .u64 0, .int .u64 0, .int .u64 0, .string (⟨#[]⟩ : ByteArray), .string (⟨#[]⟩ : ByteArray)] 26 (0, 0)) (by (with_reducible repeat (first | refine blk_drewN ?_ _ | refine blk_drew ?_ | refine blk_alloc ?_ _)); exact BK212.out) hb)
    have n4_ := Aside0.mk (below_step (by repeat (first | (with_reducible first | exact HB.out | apply below_alloc | apply pw_below_drewN | apply below_drew1 | refine below_set ?_ GE209.out | refine below_set ?_ GE210.out | refine below_set ?_ GE211.out | refine below_set ?_ GE212.out) | exact HB.out)) hb)
    clear BK209
    clear BK210
    clear BK211
    clear BK212
    clear HB
    have BK209 := n0_
    have BK210 := n1_
    have BK211 := n2_
    have BK212 := n3_
    have HB := n4_
    clear n0_ n1_ n2_ n3_ n4_
    (try clear hb)
    (try clear hb2)
    (try clear hk)
    (try clear hi)
    refine hK.out _ _ ⟨(blk_cell BK209.out 0).trans rfl, (blk_cell BK209.out 1).trans rfl, (blk_cell BK209.out 2).trans rfl, (blk_cell BK209.out 3).trans rfl, (blk_cell BK209.out 4).trans rfl, (blk_cell BK210.out 0).trans rfl, (blk_cell BK210.out 1).trans rfl, (blk_cell BK210.out 2).trans rfl, (blk_cell BK210.out 3).trans rfl, (blk_cell BK210.out 4).trans rfl⟩ (fun hHeld => ?_)
    clear hK K
    refine norm_ (a' := ?_) ?_ ?_
    rotate_left
    · show Act.put _ (some 10) _ = _
      simp only [Act.put, List.setIfInBounds_toArray, List.set_cons_zero, List.set_cons_succ, i64_w, i32_w]
      rfl
    refine one_ (i := 3) (N := some 12) #[true, true, true, true, true, true, false, false, false, false, false, false, false] rfl rfl (one_of HT_.out (by kernel_rfl)) (by decide) (fun K hK => ?_)
    refine goes_ Tryd.func41 (by kernel_rfl) rfl #[.agg #[.int .u64 a1_0, .int .u64 a1_1, .int .u64 a1_2, .string a1_3, .string a1_4]] (by rfl) rfl rfl (by (try simp only [List.map_toArray, List.map_cons, List.map_nil]); first | done | rfl | (simp only [List.length_drop, List.length_take]; rfl)) ?_
    with_reducible refine (spec_Bare.calls a1_0 a1_1 a1_2 a1_3 a1_4 t218 t219 t220 t221 t222 _ A5.out).mono ?_
    rintro e w13 ⟨rfl, hb⟩
    refine ⟨_, rfl, ?_⟩
    have n0_ := Aside0.mk (blk_below (g := gb209) (o := .cells #[.int .u64 a0_0, .int .u64 a0_1, .int .u64 a0_2, .string a0_3, .string a0_4] 26 (0, 0)) (by (with_reducible repeat (first | refine blk_drewN ?_ _ | refine blk_drew ?_ | refine blk_alloc ?_ _)); exact BK209.out) hb)
    have n1_ := Aside0.mk (blk_below (g := gb210) (o := .cells #[.int .u64 a1_0, .int .u64 a1_1, .int .u64 a1_2, .string a1_3, .string a1_4] 26 (0, 0)) (by (with_reducible repeat (first | refine blk_drewN ?_ _ | refine blk_drew ?_ | refine blk_alloc ?_ _)); exact BK210.out) hb)
    have n2_ := Aside0.mk (blk_below (g := gb211) (o := .cells #[.int .u64 0, .int .u64 0, .int .u64 0, .string (⟨#[]⟩ : ByteArray), .string (⟨#[]⟩ : ByteArray)] 26 (0, 0)) (by (with_reducible repeat (first | refine blk_drewN ?_ _ | refine blk_drew ?_ | refine blk_alloc ?_ _)); exact BK211.out) hb)
    have n3_ := Aside0.mk (blk_below (g := gb212) (o := .cells #[.int .u64 0, .int .u64 0, .int .u64 0, .string (⟨#[]⟩ : ByteArray), .string (⟨#[]⟩ : ByteArray)] 26 (0, 0)) (by (with_reducible repeat (first | refine blk_drewN ?_ _ | refine blk_drew ?_ | refine blk_alloc ?_ _)); exact BK212.out) hb)
    have n4_ := Aside0.mk (below_step (by repeat (first | (with_reducible first | exact HB.out | apply below_alloc | apply pw_below_drewN | apply below_drew1 | refine below_set ?_ GE209.out | refine below_set ?_ GE210.out | refine below_set ?_ GE211.out | refine below_set ?_ GE212.out) | exact HB.out)) hb)
    clear BK209
    clear BK210
    clear BK211
    clear BK212
    clear HB
    have BK209 := n0_
    have BK210 := n1_
    have BK211 := n2_
    have BK212 := n3_
    have HB := n4_
    clear n0_ n1_ n2_ n3_ n4_
    (try clear hb)
    (try clear hb2)
    (try clear hk)
    (try clear hi)
    refine hK.out _ _ ⟨(blk_cell BK209.out 0).trans rfl, (blk_cell BK209.out 1).trans rfl, (blk_cell BK209.out 2).trans rfl, (blk_cell BK209.out 3).trans rfl, (blk_cell BK209.out 4).trans rfl, (blk_cell BK210.out 0).trans rfl, (blk_cell BK210.out 1).trans rfl, (blk_cell BK210.out 2).trans rfl, (blk_cell BK210.out 3).trans rfl, (blk_cell BK210.out 4).trans rfl⟩ (fun hHeld => ?_)
    clear hK K
    refine norm_ (a' := ?_) ?_ ?_
    rotate_left
    · show Act.put _ (some 12) _ = _
      simp only [Act.put, List.setIfInBounds_toArray, List.set_cons_zero, List.set_cons_succ, i64_w, i32_w]
      rfl
    refine pure_ (i := 6) (N := some 15) (v := ?_) (a' := ?_) #[true, true, true, true, true, true, true, false, false, false, false, false, false] rfl rfl (any_of HT_.out (by kernel_rfl)) (fun _ _ _ h => h) (Or.inl ⟨by rfl, ?_⟩) ?_ ?_
    rotate_left
    · intro w'
      go_simp
      with_reducible rfl
    rotate_left
    · simp only [Act.put, List.setIfInBounds_toArray, List.set_cons_zero, List.set_cons_succ, i64_w, i32_w]
      rfl
    refine pure_ (i := 7) (N := some 16) (v := ?_) (a' := ?_) #[true, true, true, true, true, true, true, true, false, false, false, false, false] rfl rfl (any_of HT_.out (by kernel_rfl)) (fun _ _ _ h => h) (Or.inl ⟨by rfl, ?_⟩) ?_ ?_
    rotate_left
    · intro w'
      go_simp
      with_reducible rfl
    rotate_left
    · simp only [Act.put, List.setIfInBounds_toArray, List.set_cons_zero, List.set_cons_succ, i64_w, i32_w]
      rfl
    refine pure_ (i := 8) (N := some 17) (v := ?_) (a' := ?_) #[true, true, true, true, true, true, true, true, true, false, false, false, false] rfl rfl (any_of HT_.out (by kernel_rfl)) (fun _ _ _ h => h) (Or.inl ⟨by rfl, ?_⟩) ?_ ?_
    rotate_left
    · intro w'
      go_simp
      with_reducible rfl
    rotate_left
    · simp only [Act.put, List.setIfInBounds_toArray, List.set_cons_zero, List.set_cons_succ, i64_w, i32_w]
      rfl
    refine pure_ (i := 9) (N := some 18) (v := ?_) (a' := ?_) #[true, true, true, true, true, true, true, true, true, true, false, false, false] rfl rfl (any_of HT_.out (by kernel_rfl)) (fun _ _ _ h => h) (Or.inl ⟨by rfl, ?_⟩) ?_ ?_
    rotate_left
    · intro w'
      go_simp
      with_reducible rfl
    rotate_left
    · simp only [Act.put, List.setIfInBounds_toArray, List.set_cons_zero, List.set_cons_succ, i64_w, i32_w]
      rfl
    refine one_ (i := 10) (N := none) #[true, true, true, true, true, true, true, true, true, true, true, false, false] rfl rfl (one_of HT_.out (by kernel_rfl)) (by decide) (fun K hK => ?_)
    have hs14 : w13.cell? ⟨gb211, 0, none⟩ = some (.int .u64 0) := (blk_cell BK211.out 0).trans rfl
    have hfs14 := blk_frozen BK211.out 0
    have hns14_0 := NB209_211.out
    have hns14_1 := NB210_211.out
    have hns14_3 := NB212_211.out
    have hms14_0 := NB211_209.out
    have hms14_1 := NB211_210.out
    have hms14_3 := NB211_212.out
    have hs15 : w13.cell? ⟨gb211, 1, none⟩ = some (.int .u64 0) := (blk_cell BK211.out 1).trans rfl
    have hfs15 := blk_frozen BK211.out 1
    have hns15_0 := NB209_211.out
    have hns15_1 := NB210_211.out
    have hns15_3 := NB212_211.out
    have hms15_0 := NB211_209.out
    have hms15_1 := NB211_210.out
    have hms15_3 := NB211_212.out
    have hs16 : w13.cell? ⟨gb211, 2, none⟩ = some (.int .u64 0) := (blk_cell BK211.out 2).trans rfl
    have hfs16 := blk_frozen BK211.out 2
    have hns16_0 := NB209_211.out
    have hns16_1 := NB210_211.out
    have hns16_3 := NB212_211.out
    have hms16_0 := NB211_209.out
    have hms16_1 := NB211_210.out
    have hms16_3 := NB211_212.out
    have hs17 : w13.cell? ⟨gb211, 3, none⟩ = some (.string (⟨#[]⟩ : ByteArray)) := (blk_cell BK211.out 3).trans rfl
    have hfs17 := blk_frozen BK211.out 3
    have hns17_0 := NB209_211.out
    have hns17_1 := NB210_211.out
    have hns17_3 := NB212_211.out
    have hms17_0 := NB211_209.out
    have hms17_1 := NB211_210.out
    have hms17_3 := NB211_212.out
    have hs18 : w13.cell? ⟨gb211, 4, none⟩ = some (.string (⟨#[]⟩ : ByteArray)) := (blk_cell BK211.out 4).trans rfl
    have hfs18 := blk_frozen BK211.out 4
    have hns18_0 := NB209_211.out
    have hns18_1 := NB210_211.out
    have hns18_3 := NB212_211.out
    have hms18_0 := NB211_209.out
    have hms18_1 := NB211_210.out
    have hms18_3 := NB211_212.out
    refine skip_ (w1 := ?_) (by rfl) rfl ?_ ?_
    rotate_left
    · go_simp
      rfl
    refine hK.out _ _ ⟨((cell_far (p := ⟨gb211, _, none⟩) NB209_211.out _).trans (((cell_far (p := ⟨gb211, _, none⟩) NB209_211.out _).trans (((cell_far (p := ⟨gb211, _, none⟩) NB209_211.out _).trans (((cell_far (p := ⟨gb211, _, none⟩) NB209_211.out _).trans (((cell_far (p := ⟨gb211, _, none⟩) NB209_211.out _).trans (hHeld.1)))))))))), ((cell_far (p := ⟨gb211, _, none⟩) NB209_211.out _).trans (((cell_far (p := ⟨gb211, _, none⟩) NB209_211.out _).trans (((cell_far (p := ⟨gb211, _, none⟩) NB209_211.out _).trans (((cell_far (p := ⟨gb211, _, none⟩) NB209_211.out _).trans (((cell_far (p := ⟨gb211, _, none⟩) NB209_211.out _).trans (hHeld.2.1)))))))))), ((cell_far (p := ⟨gb211, _, none⟩) NB209_211.out _).trans (((cell_far (p := ⟨gb211, _, none⟩) NB209_211.out _).trans (((cell_far (p := ⟨gb211, _, none⟩) NB209_211.out _).trans (((cell_far (p := ⟨gb211, _, none⟩) NB209_211.out _).trans (((cell_far (p := ⟨gb211, _, none⟩) NB209_211.out _).trans (hHeld.2.2.1)))))))))), ((cell_far (p := ⟨gb211, _, none⟩) NB209_211.out _).trans (((cell_far (p := ⟨gb211, _, none⟩) NB209_211.out _).trans (((cell_far (p := ⟨gb211, _, none⟩) NB209_211.out _).trans (((cell_far (p := ⟨gb211, _, none⟩) NB209_211.out _).trans (((cell_far (p := ⟨gb211, _, none⟩) NB209_211.out _).trans (hHeld.2.2.2.1)))))))))), ((cell_far (p := ⟨gb211, _, none⟩) NB209_211.out _).trans (((cell_far (p := ⟨gb211, _, none⟩) NB209_211.out _).trans (((cell_far (p := ⟨gb211, _, none⟩) NB209_211.out _).trans (((cell_far (p := ⟨gb211, _, none⟩) NB209_211.out _).trans (((cell_far (p := ⟨gb211, _, none⟩) NB209_211.out _).trans (hHeld.2.2.2.2.1)))))))))), ((cell_far (p := ⟨gb211, _, none⟩) NB210_211.out _).trans (((cell_far (p := ⟨gb211, _, none⟩) NB210_211.out _).trans (((cell_far (p := ⟨gb211, _, none⟩) NB210_211.out _).trans (((cell_far (p := ⟨gb211, _, none⟩) NB210_211.out _).trans (((cell_far (p := ⟨gb211, _, none⟩) NB210_211.out _).trans (hHeld.2.2.2.2.2.1)))))))))), ((cell_far (p := ⟨gb211, _, none⟩) NB210_211.out _).trans (((cell_far (p := ⟨gb211, _, none⟩) NB210_211.out _).trans (((cell_far (p := ⟨gb211, _, none⟩) NB210_211.out _).trans (((cell_far (p := ⟨gb211, _, none⟩) NB210_211.out _).trans (((cell_far (p := ⟨gb211, _, none⟩) NB210_211.out _).trans (hHeld.2.2.2.2.2.2.1)))))))))), ((cell_far (p := ⟨gb211, _, none⟩) NB210_211.out _).trans (((cell_far (p := ⟨gb211, _, none⟩) NB210_211.out _).trans (((cell_far (p := ⟨gb211, _, none⟩) NB210_211.out _).trans (((cell_far (p := ⟨gb211, _, none⟩) NB210_211.out _).trans (((cell_far (p := ⟨gb211, _, none⟩) NB210_211.out _).trans (hHeld.2.2.2.2.2.2.2.1)))))))))), ((cell_far (p := ⟨gb211, _, none⟩) NB210_211.out _).trans (((cell_far (p := ⟨gb211, _, none⟩) NB210_211.out _).trans (((cell_far (p := ⟨gb211, _, none⟩) NB210_211.out _).trans (((cell_far (p := ⟨gb211, _, none⟩) NB210_211.out _).trans (((cell_far (p := ⟨gb211, _, none⟩) NB210_211.out _).trans (hHeld.2.2.2.2.2.2.2.2.1)))))))))), ((cell_far (p := ⟨gb211, _, none⟩) NB210_211.out _).trans (((cell_far (p := ⟨gb211, _, none⟩) NB210_211.out _).trans (((cell_far (p := ⟨gb211, _, none⟩) NB210_211.out _).trans (((cell_far (p := ⟨gb211, _, none⟩) NB210_211.out _).trans (((cell_far (p := ⟨gb211, _, none⟩) NB210_211.out _).trans (hHeld.2.2.2.2.2.2.2.2.2))))))))))⟩ (fun hHeld => ?_)
    clear hK K
    refine one_ (i := 11) (N := none) #[true, true, true, true, true, true, true, true, true, true, true, true, false] rfl rfl (one_of HT_.out (by kernel_rfl)) (by decide) (fun K hK => ?_)
    have hs19 : w13.cell? ⟨gb212, 0, none⟩ = some (.int .u64 0) := (blk_cell BK212.out 0).trans rfl
    have hfs19 := blk_frozen BK212.out 0
    have hns19_0 := NB209_212.out
    have hns19_1 := NB210_212.out
    have hns19_2 := NB211_212.out
    have hms19_0 := NB212_209.out
    have hms19_1 := NB212_210.out
    have hms19_2 := NB212_211.out
    have hs20 : w13.cell? ⟨gb212, 1, none⟩ = some (.int .u64 0) := (blk_cell BK212.out 1).trans rfl
    have hfs20 := blk_frozen BK212.out 1
    have hns20_0 := NB209_212.out
    have hns20_1 := NB210_212.out
    have hns20_2 := NB211_212.out
    have hms20_0 := NB212_209.out
    have hms20_1 := NB212_210.out
    have hms20_2 := NB212_211.out
    have hs21 : w13.cell? ⟨gb212, 2, none⟩ = some (.int .u64 0) := (blk_cell BK212.out 2).trans rfl
    have hfs21 := blk_frozen BK212.out 2
    have hns21_0 := NB209_212.out
    have hns21_1 := NB210_212.out
    have hns21_2 := NB211_212.out
    have hms21_0 := NB212_209.out
    have hms21_1 := NB212_210.out
    have hms21_2 := NB212_211.out
    have hs22 : w13.cell? ⟨gb212, 3, none⟩ = some (.string (⟨#[]⟩ : ByteArray)) := (blk_cell BK212.out 3).trans rfl
    have hfs22 := blk_frozen BK212.out 3
    have hns22_0 := NB209_212.out
    have hns22_1 := NB210_212.out
    have hns22_2 := NB211_212.out
    have hms22_0 := NB212_209.out
    have hms22_1 := NB212_210.out
    have hms22_2 := NB212_211.out
    have hs23 : w13.cell? ⟨gb212, 4, none⟩ = some (.string (⟨#[]⟩ : ByteArray)) := (blk_cell BK212.out 4).trans rfl
    have hfs23 := blk_frozen BK212.out 4
    have hns23_0 := NB209_212.out
    have hns23_1 := NB210_212.out
    have hns23_2 := NB211_212.out
    have hms23_0 := NB212_209.out
    have hms23_1 := NB212_210.out
    have hms23_2 := NB212_211.out
    refine skip_ (w1 := ?_) (by rfl) rfl ?_ ?_
    rotate_left
    · go_simp
      rfl
    refine hK.out _ _ ⟨((cell_far (p := ⟨gb212, _, none⟩) NB209_212.out _).trans (((cell_far (p := ⟨gb212, _, none⟩) NB209_212.out _).trans (((cell_far (p := ⟨gb212, _, none⟩) NB209_212.out _).trans (((cell_far (p := ⟨gb212, _, none⟩) NB209_212.out _).trans (((cell_far (p := ⟨gb212, _, none⟩) NB209_212.out _).trans (hHeld.1)))))))))), ((cell_far (p := ⟨gb212, _, none⟩) NB209_212.out _).trans (((cell_far (p := ⟨gb212, _, none⟩) NB209_212.out _).trans (((cell_far (p := ⟨gb212, _, none⟩) NB209_212.out _).trans (((cell_far (p := ⟨gb212, _, none⟩) NB209_212.out _).trans (((cell_far (p := ⟨gb212, _, none⟩) NB209_212.out _).trans (hHeld.2.1)))))))))), ((cell_far (p := ⟨gb212, _, none⟩) NB209_212.out _).trans (((cell_far (p := ⟨gb212, _, none⟩) NB209_212.out _).trans (((cell_far (p := ⟨gb212, _, none⟩) NB209_212.out _).trans (((cell_far (p := ⟨gb212, _, none⟩) NB209_212.out _).trans (((cell_far (p := ⟨gb212, _, none⟩) NB209_212.out _).trans (hHeld.2.2.1)))))))))), ((cell_far (p := ⟨gb212, _, none⟩) NB209_212.out _).trans (((cell_far (p := ⟨gb212, _, none⟩) NB209_212.out _).trans (((cell_far (p := ⟨gb212, _, none⟩) NB209_212.out _).trans (((cell_far (p := ⟨gb212, _, none⟩) NB209_212.out _).trans (((cell_far (p := ⟨gb212, _, none⟩) NB209_212.out _).trans (hHeld.2.2.2.1)))))))))), ((cell_far (p := ⟨gb212, _, none⟩) NB209_212.out _).trans (((cell_far (p := ⟨gb212, _, none⟩) NB209_212.out _).trans (((cell_far (p := ⟨gb212, _, none⟩) NB209_212.out _).trans (((cell_far (p := ⟨gb212, _, none⟩) NB209_212.out _).trans (((cell_far (p := ⟨gb212, _, none⟩) NB209_212.out _).trans (hHeld.2.2.2.2.1)))))))))), ((cell_far (p := ⟨gb212, _, none⟩) NB210_212.out _).trans (((cell_far (p := ⟨gb212, _, none⟩) NB210_212.out _).trans (((cell_far (p := ⟨gb212, _, none⟩) NB210_212.out _).trans (((cell_far (p := ⟨gb212, _, none⟩) NB210_212.out _).trans (((cell_far (p := ⟨gb212, _, none⟩) NB210_212.out _).trans (hHeld.2.2.2.2.2.1)))))))))), ((cell_far (p := ⟨gb212, _, none⟩) NB210_212.out _).trans (((cell_far (p := ⟨gb212, _, none⟩) NB210_212.out _).trans (((cell_far (p := ⟨gb212, _, none⟩) NB210_212.out _).trans (((cell_far (p := ⟨gb212, _, none⟩) NB210_212.out _).trans (((cell_far (p := ⟨gb212, _, none⟩) NB210_212.out _).trans (hHeld.2.2.2.2.2.2.1)))))))))), ((cell_far (p := ⟨gb212, _, none⟩) NB210_212.out _).trans (((cell_far (p := ⟨gb212, _, none⟩) NB210_212.out _).trans (((cell_far (p := ⟨gb212, _, none⟩) NB210_212.out _).trans (((cell_far (p := ⟨gb212, _, none⟩) NB210_212.out _).trans (((cell_far (p := ⟨gb212, _, none⟩) NB210_212.out _).trans (hHeld.2.2.2.2.2.2.2.1)))))))))), ((cell_far (p := ⟨gb212, _, none⟩) NB210_212.out _).trans (((cell_far (p := ⟨gb212, _, none⟩) NB210_212.out _).trans (((cell_far (p := ⟨gb212, _, none⟩) NB210_212.out _).trans (((cell_far (p := ⟨gb212, _, none⟩) NB210_212.out _).trans (((cell_far (p := ⟨gb212, _, none⟩) NB210_212.out _).trans (hHeld.2.2.2.2.2.2.2.2.1)))))))))), ((cell_far (p := ⟨gb212, _, none⟩) NB210_212.out _).trans (((cell_far (p := ⟨gb212, _, none⟩) NB210_212.out _).trans (((cell_far (p := ⟨gb212, _, none⟩) NB210_212.out _).trans (((cell_far (p := ⟨gb212, _, none⟩) NB210_212.out _).trans (((cell_far (p := ⟨gb212, _, none⟩) NB210_212.out _).trans (hHeld.2.2.2.2.2.2.2.2.2))))))))))⟩ (fun hHeld => ?_)
    clear hK K
    refine pure_ (i := 12) (N := some 8) (v := ?_) (a' := ?_) #[true, true, true, true, true, true, true, true, true, true, true, true, true] rfl rfl (any_of HT_.out (by kernel_rfl)) (fun _ _ _ h => h) (Or.inl ⟨by rfl, ?_⟩) ?_ ?_
    rotate_left
    · intro w'
      go_simp
      with_reducible rfl
    rotate_left
    · simp only [Act.put, List.setIfInBounds_toArray, List.set_cons_zero, List.set_cons_succ, i64_w, i32_w]
      rfl
    refine done_ (done_of HT_.out (by kernel_rfl)) ?_
    try go_wp2
    refine bodyPost_ret (results_list (rs := [.cell 6 26, .cell 7 26, .tmp 8]) rfl (by simp) (.cell gb211 26 #[.int .u64 t213, .int .u64 t214, .int .u64 t215, .string t216, .string t217] (0, 0) _ rfl (by (with_reducible repeat (first | refine blk_drewN ?_ _ | refine blk_drew ?_ | refine blk_alloc ?_ _)); refine blk_far ?_ NB211_212.out _; (with_reducible repeat (first | refine blk_drewN ?_ _ | refine blk_drew ?_ | refine blk_alloc ?_ _)); refine blk_far ?_ NB211_212.out _; (with_reducible repeat (first | refine blk_drewN ?_ _ | refine blk_drew ?_ | refine blk_alloc ?_ _)); refine blk_far ?_ NB211_212.out _; (with_reducible repeat (first | refine blk_drewN ?_ _ | refine blk_drew ?_ | refine blk_alloc ?_ _)); refine blk_far ?_ NB211_212.out _; (with_reducible repeat (first | refine blk_drewN ?_ _ | refine blk_drew ?_ | refine blk_alloc ?_ _)); refine blk_far ?_ NB211_212.out _; (with_reducible repeat (first | refine blk_drewN ?_ _ | refine blk_drew ?_ | refine blk_alloc ?_ _)); refine blk_put (cs := #[.int .u64 t213, .int .u64 t214, .int .u64 t215, .string t216, .string (⟨#[]⟩ : ByteArray)]) ?_ 4 _ rfl; (with_reducible repeat (first | refine blk_drewN ?_ _ | refine blk_drew ?_ | refine blk_alloc ?_ _)); refine blk_put (cs := #[.int .u64 t213, .int .u64 t214, .int .u64 t215, .string (⟨#[]⟩ : ByteArray), .string (⟨#[]⟩ : ByteArray)]) ?_ 3 _ rfl; (with_reducible repeat (first | refine blk_drewN ?_ _ | refine blk_drew ?_ | refine blk_alloc ?_ _)); refine blk_put (cs := #[.int .u64 t213, .int .u64 t214, .int .u64 0, .string (⟨#[]⟩ : ByteArray), .string (⟨#[]⟩ : ByteArray)]) ?_ 2 _ rfl; (with_reducible repeat (first | refine blk_drewN ?_ _ | refine blk_drew ?_ | refine blk_alloc ?_ _)); refine blk_put (cs := #[.int .u64 t213, .int .u64 0, .int .u64 0, .string (⟨#[]⟩ : ByteArray), .string (⟨#[]⟩ : ByteArray)]) ?_ 1 _ rfl; (with_reducible repeat (first | refine blk_drewN ?_ _ | refine blk_drew ?_ | refine blk_alloc ?_ _)); refine blk_put (cs := #[.int .u64 0, .int .u64 0, .int .u64 0, .string (⟨#[]⟩ : ByteArray), .string (⟨#[]⟩ : ByteArray)]) ?_ 0 _ rfl; (with_reducible repeat (first | refine blk_drewN ?_ _ | refine blk_drew ?_ | refine blk_alloc ?_ _)); exact BK211.out) Tryd.underlying26 rfl (by kernel_rfl) (.cell gb212 26 #[.int .u64 t218, .int .u64 t219, .int .u64 t220, .string t221, .string t222] (0, 0) _ rfl (by (with_reducible repeat (first | refine blk_drewN ?_ _ | refine blk_drew ?_ | refine blk_alloc ?_ _)); refine blk_put (cs := #[.int .u64 t218, .int .u64 t219, .int .u64 t220, .string t221, .string (⟨#[]⟩ : ByteArray)]) ?_ 4 _ rfl; (with_reducible repeat (first | refine blk_drewN ?_ _ | refine blk_drew ?_ | refine blk_alloc ?_ _)); refine blk_put (cs := #[.int .u64 t218, .int .u64 t219, .int .u64 t220, .string (⟨#[]⟩ : ByteArray), .string (⟨#[]⟩ : ByteArray)]) ?_ 3 _ rfl; (with_reducible repeat (first | refine blk_drewN ?_ _ | refine blk_drew ?_ | refine blk_alloc ?_ _)); refine blk_put (cs := #[.int .u64 t218, .int .u64 t219, .int .u64 0, .string (⟨#[]⟩ : ByteArray), .string (⟨#[]⟩ : ByteArray)]) ?_ 2 _ rfl; (with_reducible repeat (first | refine blk_drewN ?_ _ | refine blk_drew ?_ | refine blk_alloc ?_ _)); refine blk_put (cs := #[.int .u64 t218, .int .u64 0, .int .u64 0, .string (⟨#[]⟩ : ByteArray), .string (⟨#[]⟩ : ByteArray)]) ?_ 1 _ rfl; (with_reducible repeat (first | refine blk_drewN ?_ _ | refine blk_drew ?_ | refine blk_alloc ?_ _)); refine blk_put (cs := #[.int .u64 0, .int .u64 0, .int .u64 0, .string (⟨#[]⟩ : ByteArray), .string (⟨#[]⟩ : ByteArray)]) ?_ 0 _ rfl; (with_reducible repeat (first | refine blk_drewN ?_ _ | refine blk_drew ?_ | refine blk_alloc ?_ _)); refine blk_far ?_ NB212_211.out _; (with_reducible repeat (first | refine blk_drewN ?_ _ | refine blk_drew ?_ | refine blk_alloc ?_ _)); refine blk_far ?_ NB212_211.out _; (with_reducible repeat (first | refine blk_drewN ?_ _ | refine blk_drew ?_ | refine blk_alloc ?_ _)); refine blk_far ?_ NB212_211.out _; (with_reducible repeat (first | refine blk_drewN ?_ _ | refine blk_drew ?_ | refine blk_alloc ?_ _)); refine blk_far ?_ NB212_211.out _; (with_reducible repeat (first | refine blk_drewN ?_ _ | refine blk_drew ?_ | refine blk_alloc ?_ _)); refine blk_far ?_ NB212_211.out _; (with_reducible repeat (first | refine blk_drewN ?_ _ | refine blk_drew ?_ | refine blk_alloc ?_ _)); exact BK212.out) Tryd.underlying26 rfl (by kernel_rfl) (.tmp .nil)))) rfl ?_
    exact ⟨by first | rfl | (simp [errW_none, errW_some] <;> rfl) | (simp [*, errW_none, errW_some] <;> rfl) | (simp [bneNil]; done), by repeat (first | (with_reducible first | exact HB.out | apply below_alloc | apply pw_below_drewN | apply below_drew1 | refine below_set ?_ GE209.out | refine below_set ?_ GE210.out | refine below_set ?_ GE211.out | refine below_set ?_ GE212.out) | exact HB.out)⟩
  · rw [if_neg c6] at H
    have c6b0 : decide (1 ≤ a2) = false := decide_eq_false c6
    clear c6
    simp only [Option.some.injEq, Prod.mk.injEq] at H
    obtain ⟨rfl, rfl, rfl, rfl, rfl, rfl, rfl, rfl, rfl, rfl, rfl⟩ := H
    go_enter Tryd.func20, Tryd.ntmps20
    try go_wp2_with (first | ((with_reducible refine gate_dst (N := 3) rfl ?_); refine box_event ?hg (N := 3) ?hd (cs := #[.int .u64 a0_0, .int .u64 a0_1, .int .u64 a0_2, .string a0_3, .string a0_4]) (t := 26) ?hr ?_; (case hd => rfl); (case hg => rfl); (case hr => first | (go_simp; done) | (go_simp; rfl) | (go_simp; simp [u8w]; done)); intro gb209 hg w24 hbox hb; have n0_ := Aside0.mk (below_step (by repeat (first | (with_reducible first | exact HB.out | apply below_alloc | apply pw_below_drewN | apply below_drew1) | exact HB.out)) hb); have n1_ := Aside0.mk (hbox); have n2_ := Aside0.mk ((by rw [hg]; exact (below_size (by repeat (first | (with_reducible first | exact HB.out | apply below_alloc | apply pw_below_drewN | apply below_drew1) | exact HB.out))) : w.heap.size ≤ gb209)); have n3_ := Aside0.mk ((by rw [hg]; exact (below_size (by repeat (first | (with_reducible first | exact HB.out | apply below_alloc | apply pw_below_drewN | apply below_drew1) | exact HB.out))) : w.heap.size ≤ gb209)); clear HB; have HB := n0_; have BK209 := n1_; have GW209 := n2_; have GE209 := n3_; clear n0_ n1_ n2_ n3_; clear hb hbox hg) | ((with_reducible refine gate_dst (N := 4) rfl ?_); refine box_event ?hg (N := 4) ?hd (cs := #[.int .u64 a1_0, .int .u64 a1_1, .int .u64 a1_2, .string a1_3, .string a1_4]) (t := 26) ?hr ?_; (case hd => rfl); (case hg => rfl); (case hr => first | (go_simp; done) | (go_simp; rfl) | (go_simp; simp [u8w]; done)); intro gb210 hg w25 hbox hb; have n0_ := Aside0.mk (blk_below (g := gb209) (o := .cells #[.int .u64 a0_0, .int .u64 a0_1, .int .u64 a0_2, .string a0_3, .string a0_4] 26 (0, 0)) (by (with_reducible repeat (first | refine blk_drewN ?_ _ | refine blk_drew ?_ | refine blk_alloc ?_ _)); exact BK209.out) hb); have n1_ := Aside0.mk (below_step (by repeat (first | (with_reducible first | exact HB.out | apply below_alloc | apply pw_below_drewN | apply below_drew1 | refine below_set ?_ GE209.out) | exact HB.out)) hb); have n2_ := Aside0.mk (hbox); have n3_ := Aside0.mk ((by rw [hg]; exact (below_size (by repeat (first | (with_reducible first | exact HB.out | apply below_alloc | apply pw_below_drewN | apply below_drew1 | refine below_set ?_ GE209.out) | exact HB.out))) : w.heap.size ≤ gb210)); have n4_ := Aside0.mk ((by rw [hg]; exact (below_size (by repeat (first | (with_reducible first | exact HB.out | apply below_alloc | apply pw_below_drewN | apply below_drew1 | refine below_set ?_ GE209.out) | exact HB.out))) : w.heap.size ≤ gb210)); have n5_ := Aside0.mk ((by rw [hg]; exact Nat.ne_of_lt (blk_lt (g := gb209) (o := .cells #[.int .u64 a0_0, .int .u64 a0_1, .int .u64 a0_2, .string a0_3, .string a0_4] 26 (0, 0)) (by (with_reducible repeat (first | refine blk_drewN ?_ _ | refine blk_drew ?_ | refine blk_alloc ?_ _)); exact BK209.out)) : gb209 ≠ gb210)); have n6_ := Aside0.mk ((by rw [hg]; exact Nat.ne_of_gt (blk_lt (g := gb209) (o := .cells #[.int .u64 a0_0, .int .u64 a0_1, .int .u64 a0_2, .string a0_3, .string a0_4] 26 (0, 0)) (by (with_reducible repeat (first | refine blk_drewN ?_ _ | refine blk_drew ?_ | refine blk_alloc ?_ _)); exact BK209.out)) : gb210 ≠ gb209)); clear BK209; clear HB; have BK209 := n0_; have HB := n1_; have BK210 := n2_; have GW210 := n3_; have GE210 := n4_; have NB209_210 := n5_; have NB210_209 := n6_; clear n0_ n1_ n2_ n3_ n4_ n5_ n6_; clear hb hbox hg) | ((with_reducible refine gate_dst (N := 6) rfl ?_); refine box_event ?hg (N := 6) ?hd (cs := #[.int .u64 0, .int .u64 0, .int .u64 0, .string (⟨#[]⟩ : ByteArray), .string (⟨#[]⟩ : ByteArray)]) (t := 26) ?hr ?_; (case hd => rfl); (case hg => rfl); (case hr => first | (go_simp; done) | (go_simp; rfl) | (go_simp; simp [u8w]; done)); intro gb211 hg w26 hbox hb; have n0_ := Aside0.mk (blk_below (g := gb209) (o := .cells #[.int .u64 a0_0, .int .u64 a0_1, .int .u64 a0_2, .string a0_3, .string a0_4] 26 (0, 0)) (by (with_reducible repeat (first | refine blk_drewN ?_ _ | refine blk_drew ?_ | refine blk_alloc ?_ _)); exact BK209.out) hb); have n1_ := Aside0.mk (blk_below (g := gb210) (o := .cells #[.int .u64 a1_0, .int .u64 a1_1, .int .u64 a1_2, .string a1_3, .string a1_4] 26 (0, 0)) (by (with_reducible repeat (first | refine blk_drewN ?_ _ | refine blk_drew ?_ | refine blk_alloc ?_ _)); exact BK210.out) hb); have n2_ := Aside0.mk (below_step (by repeat (first | (with_reducible first | exact HB.out | apply below_alloc | apply pw_below_drewN | apply below_drew1 | refine below_set ?_ GE209.out | refine below_set ?_ GE210.out) | exact HB.out)) hb); have n3_ := Aside0.mk (hbox); have n4_ := Aside0.mk ((by rw [hg]; exact (below_size (by repeat (first | (with_reducible first | exact HB.out | apply below_alloc | apply pw_below_drewN | apply below_drew1 | refine below_set ?_ GE209.out | refine below_set ?_ GE210.out) | exact HB.out))) : w.heap.size ≤ gb211)); have n5_ := Aside0.mk ((by rw [hg]; exact (below_size (by repeat (first | (with_reducible first | exact HB.out | apply below_alloc | apply pw_below_drewN | apply below_drew1 | refine below_set ?_ GE209.out | refine below_set ?_ GE210.out) | exact HB.out))) : w.heap.size ≤ gb211)); have n6_ := Aside0.mk ((by rw [hg]; exact Nat.ne_of_lt (blk_lt (g := gb209) (o := .cells #[.int .u64 a0_0, .int .u64 a0_1, .int .u64 a0_2, .string a0_3, .string a0_4] 26 (0, 0)) (by (with_reducible repeat (first | refine blk_drewN ?_ _ | refine blk_drew ?_ | refine blk_alloc ?_ _)); exact BK209.out)) : gb209 ≠ gb211)); have n7_ := Aside0.mk ((by rw [hg]; exact Nat.ne_of_gt (blk_lt (g := gb209) (o := .cells #[.int .u64 a0_0, .int .u64 a0_1, .int .u64 a0_2, .string a0_3, .string a0_4] 26 (0, 0)) (by (with_reducible repeat (first | refine blk_drewN ?_ _ | refine blk_drew ?_ | refine blk_alloc ?_ _)); exact BK209.out)) : gb211 ≠ gb209)); have n8_ := Aside0.mk ((by rw [hg]; exact Nat.ne_of_lt (blk_lt (g := gb210) (o := .cells #[.int .u64 a1_0, .int .u64 a1_1, .int .u64 a1_2, .string a1_3, .string a1_4] 26 (0, 0)) (by (with_reducible repeat (first | refine blk_drewN ?_ _ | refine blk_drew ?_ | refine blk_alloc ?_ _)); exact BK210.out)) : gb210 ≠ gb211)); have n9_ := Aside0.mk ((by rw [hg]; exact Nat.ne_of_gt (blk_lt (g := gb210) (o := .cells #[.int .u64 a1_0, .int .u64 a1_1, .int .u64 a1_2, .string a1_3, .string a1_4] 26 (0, 0)) (by (with_reducible repeat (first | refine blk_drewN ?_ _ | refine blk_drew ?_ | refine blk_alloc ?_ _)); exact BK210.out)) : gb211 ≠ gb210)); clear BK209; clear BK210; clear HB; have BK209 := n0_; have BK210 := n1_; have HB := n2_; have BK211 := n3_; have GW211 := n4_; have GE211 := n5_; have NB209_211 := n6_; have NB211_209 := n7_; have NB210_211 := n8_; have NB211_210 := n9_; clear n0_ n1_ n2_ n3_ n4_ n5_ n6_ n7_ n8_ n9_; clear hb hbox hg) | ((with_reducible refine gate_dst (N := 7) rfl ?_); refine box_event ?hg (N := 7) ?hd (cs := #[.int .u64 0, .int .u64 0, .int .u64 0, .string (⟨#[]⟩ : ByteArray), .string (⟨#[]⟩ : ByteArray)]) (t := 26) ?hr ?_; (case hd => rfl); (case hg => rfl); (case hr => first | (go_simp; done) | (go_simp; rfl) | (go_simp; simp [u8w]; done)); intro gb212 hg w27 hbox hb; have n0_ := Aside0.mk (blk_below (g := gb209) (o := .cells #[.int .u64 a0_0, .int .u64 a0_1, .int .u64 a0_2, .string a0_3, .string a0_4] 26 (0, 0)) (by (with_reducible repeat (first | refine blk_drewN ?_ _ | refine blk_drew ?_ | refine blk_alloc ?_ _)); exact BK209.out) hb); have n1_ := Aside0.mk (blk_below (g := gb210) (o := .cells #[.int .u64 a1_0, .int .u64 a1_1, .int .u64 a1_2, .string a1_3, .string a1_4] 26 (0, 0)) (by (with_reducible repeat (first | refine blk_drewN ?_ _ | refine blk_drew ?_ | refine blk_alloc ?_ _)); exact BK210.out) hb); have n2_ := Aside0.mk (blk_below (g := gb211) (o := .cells #[.int .u64 0, .int .u64 0, .int .u64 0, .string (⟨#[]⟩ : ByteArray), .string (⟨#[]⟩ : ByteArray)] 26 (0, 0)) (by (with_reducible repeat (first | refine blk_drewN ?_ _ | refine blk_drew ?_ | refine blk_alloc ?_ _)); exact BK211.out) hb); have n3_ := Aside0.mk (below_step (by repeat (first | (with_reducible first | exact HB.out | apply below_alloc | apply pw_below_drewN | apply below_drew1 | refine below_set ?_ GE209.out | refine below_set ?_ GE210.out | refine below_set ?_ GE211.out) | exact HB.out)) hb); have n4_ := Aside0.mk (hbox); have n5_ := Aside0.mk ((by rw [hg]; exact (below_size (by repeat (first | (with_reducible first | exact HB.out | apply below_alloc | apply pw_below_drewN | apply below_drew1 | refine below_set ?_ GE209.out | refine below_set ?_ GE210.out | refine below_set ?_ GE211.out) | exact HB.out))) : w.heap.size ≤ gb212)); have n6_ := Aside0.mk ((by rw [hg]; exact (below_size (by repeat (first | (with_reducible first | exact HB.out | apply below_alloc | apply pw_below_drewN | apply below_drew1 | refine below_set ?_ GE209.out | refine below_set ?_ GE210.out | refine below_set ?_ GE211.out) | exact HB.out))) : w.heap.size ≤ gb212)); have n7_ := Aside0.mk ((by rw [hg]; exact Nat.ne_of_lt (blk_lt (g := gb209) (o := .cells #[.int .u64 a0_0, .int .u64 a0_1, .int .u64 a0_2, .string a0_3, .string a0_4] 26 (0, 0)) (by (with_reducible repeat (first | refine blk_drewN ?_ _ | refine blk_drew ?_ | refine blk_alloc ?_ _)); exact BK209.out)) : gb209 ≠ gb212)); have n8_ := Aside0.mk ((by rw [hg]; exact Nat.ne_of_gt (blk_lt (g := gb209) (o := .cells #[.int .u64 a0_0, .int .u64 a0_1, .int .u64 a0_2, .string a0_3, .string a0_4] 26 (0, 0)) (by (with_reducible repeat (first | refine blk_drewN ?_ _ | refine blk_drew ?_ | refine blk_alloc ?_ _)); exact BK209.out)) : gb212 ≠ gb209)); have n9_ := Aside0.mk ((by rw [hg]; exact Nat.ne_of_lt (blk_lt (g := gb210) (o := .cells #[.int .u64 a1_0, .int .u64 a1_1, .int .u64 a1_2, .string a1_3, .string a1_4] 26 (0, 0)) (by (with_reducible repeat (first | refine blk_drewN ?_ _ | refine blk_drew ?_ | refine blk_alloc ?_ _)); exact BK210.out)) : gb210 ≠ gb212)); have n10_ := Aside0.mk ((by rw [hg]; exact Nat.ne_of_gt (blk_lt (g := gb210) (o := .cells #[.int .u64 a1_0, .int .u64 a1_1, .int .u64 a1_2, .string a1_3, .string a1_4] 26 (0, 0)) (by (with_reducible repeat (first | refine blk_drewN ?_ _ | refine blk_drew ?_ | refine blk_alloc ?_ _)); exact BK210.out)) : gb212 ≠ gb210)); have n11_ := Aside0.mk ((by rw [hg]; exact Nat.ne_of_lt (blk_lt (g := gb211) (o := .cells #[.int .u64 0, .int .u64 0, .int .u64 0, .string (⟨#[]⟩ : ByteArray), .string (⟨#[]⟩ : ByteArray)] 26 (0, 0)) (by (with_reducible repeat (first | refine blk_drewN ?_ _ | refine blk_drew ?_ | refine blk_alloc ?_ _)); exact BK211.out)) : gb211 ≠ gb212)); have n12_ := Aside0.mk ((by rw [hg]; exact Nat.ne_of_gt (blk_lt (g := gb211) (o := .cells #[.int .u64 0, .int .u64 0, .int .u64 0, .string (⟨#[]⟩ : ByteArray), .string (⟨#[]⟩ : ByteArray)] 26 (0, 0)) (by (with_reducible repeat (first | refine blk_drewN ?_ _ | refine blk_drew ?_ | refine blk_alloc ?_ _)); exact BK211.out)) : gb212 ≠ gb211)); clear BK209; clear BK210; clear BK211; clear HB; have BK209 := n0_; have BK210 := n1_; have BK211 := n2_; have HB := n3_; have BK212 := n4_; have GW212 := n5_; have GE212 := n6_; have NB209_212 := n7_; have NB212_209 := n8_; have NB210_212 := n9_; have NB212_210 := n10_; have NB211_212 := n11_; have NB212_211 := n12_; clear n0_ n1_ n2_ n3_ n4_ n5_ n6_ n7_ n8_ n9_ n10_ n11_ n12_; clear hb hbox hg))
    have n0_ := Aside0.mk (blk_drew BK209.out)
    have n1_ := Aside0.mk (blk_drew BK210.out)
    have n2_ := Aside0.mk (blk_drew BK211.out)
    have n3_ := Aside0.mk (blk_drew BK212.out)
    have n4_ := Aside0.mk (below_drew1 HB.out)
    clear BK209
    clear BK210
    clear BK211
    clear BK212
    clear HB
    have BK209 := n0_
    have BK210 := n1_
    have BK211 := n2_
    have BK212 := n3_
    have HB := n4_
    clear n0_ n1_ n2_ n3_ n4_
    refine start_ (n := 13) (S := fun w' => w'.cell? ⟨gb209, 0, none⟩ = some (.int .u64 a0_0) ∧ w'.cell? ⟨gb209, 1, none⟩ = some (.int .u64 a0_1) ∧ w'.cell? ⟨gb209, 2, none⟩ = some (.int .u64 a0_2) ∧ w'.cell? ⟨gb209, 3, none⟩ = some (.string a0_3) ∧ w'.cell? ⟨gb209, 4, none⟩ = some (.string a0_4) ∧ w'.cell? ⟨gb210, 0, none⟩ = some (.int .u64 a1_0) ∧ w'.cell? ⟨gb210, 1, none⟩ = some (.int .u64 a1_1) ∧ w'.cell? ⟨gb210, 2, none⟩ = some (.int .u64 a1_2) ∧ w'.cell? ⟨gb210, 3, none⟩ = some (.string a1_3) ∧ w'.cell? ⟨gb210, 4, none⟩ = some (.string a1_4)) (ds := []) #[false, false, false, false, false, false, false, false, false, false, false, false, false] (by kernel_rfl) rfl rfl ⟨(blk_cell BK209.out 0).trans rfl, (blk_cell BK209.out 1).trans rfl, (blk_cell BK209.out 2).trans rfl, (blk_cell BK209.out 3).trans rfl, (blk_cell BK209.out 4).trans rfl, (blk_cell BK210.out 0).trans rfl, (blk_cell BK210.out 1).trans rfl, (blk_cell BK210.out 2).trans rfl, (blk_cell BK210.out 3).trans rfl, (blk_cell BK210.out 4).trans rfl⟩ (fun hHeld => ?_); refine with_tabW laws_stBare.tab1 laws_stBare.bits1 (fun HT_ HW_ => ?_)
    generalize w27.drew = w28 at BK209 BK210 BK211 BK212 HB hHeld ⊢
    refine pure_ (i := 4) (N := some 13) (v := ?_) (a' := ?_) #[false, false, false, false, true, false, false, false, false, false, false, false, false] rfl rfl (any_of HT_.out (by kernel_rfl)) (fun _ _ _ h => h) (Or.inl ⟨by rfl, ?_⟩) ?_ ?_
    rotate_left
    · intro w'
      go_simp
      with_reducible rfl
    rotate_left
    · simp only [Act.put, List.setIfInBounds_toArray, List.set_cons_zero, List.set_cons_succ, i64_w, i32_w]
      rfl
    refine pure_ (i := 5) (N := some 14) (v := ?_) (a' := ?_) #[false, false, false, false, true, true, false, false, false, false, false, false, false] rfl rfl (any_of HT_.out (by kernel_rfl)) (fun _ _ _ h => h) (Or.inl ⟨by rfl, ?_⟩) ?_ ?_
    rotate_left
    · intro w'
      go_simp
      with_reducible rfl
    rotate_left
    · simp only [Act.put, List.setIfInBounds_toArray, List.set_cons_zero, List.set_cons_succ, i64_w, i32_w]
      rfl
    refine take_ (i := 0) (N := some 9) (v := ?_) (a' := ?_) #[true, false, false, false, true, true, false, false, false, false, false, false, false] rfl rfl (take_ofW HT_.out HW_.out (by kernel_rfl)) (fun _ _ _ h => h) (Or.inl ⟨by rfl, ?_⟩) hHeld ?_ ?_
    rotate_left
    · rintro w' ⟨s0, s1, s2, s3, s4, s5, s6, s7, s8, s9⟩
      go_simp
      with_reducible rfl
    rotate_left
    · simp only [Act.put, List.setIfInBounds_toArray, List.set_cons_zero, List.set_cons_succ, i64_w, i32_w]
      rfl
    refine take_ (i := 2) (N := some 11) (v := ?_) (a' := ?_) #[true, false, true, false, true, true, false, false, false, false, false, false, false] rfl rfl (take_ofW HT_.out HW_.out (by kernel_rfl)) (fun _ _ _ h => h) (Or.inl ⟨by rfl, ?_⟩) hHeld ?_ ?_
    rotate_left
    · rintro w' ⟨s0, s1, s2, s3, s4, s5, s6, s7, s8, s9⟩
      go_simp
      with_reducible rfl
    rotate_left
    · simp only [Act.put, List.setIfInBounds_toArray, List.set_cons_zero, List.set_cons_succ, i64_w, i32_w]
      rfl
    refine one_ (i := 1) (N := some 10) #[true, true, true, false, true, true, false, false, false, false, false, false, false] rfl rfl (one_of HT_.out (by kernel_rfl)) (by decide) (fun K hK => ?_)
    refine goes_ Tryd.func41 (by kernel_rfl) rfl #[.agg #[.int .u64 a0_0, .int .u64 a0_1, .int .u64 a0_2, .string a0_3, .string a0_4]] (by rfl) rfl rfl (by (try simp only [List.map_toArray, List.map_cons, List.map_nil]); first | done | rfl | (simp only [List.length_drop, List.length_take]; rfl)) ?_
    with_reducible refine (spec_Bare.calls a0_0 a0_1 a0_2 a0_3 a0_4 t213 t214 t215 t216 t217 _ A4.out).mono ?_
    rintro e w29 ⟨rfl, hb⟩
    refine ⟨_, rfl, ?_⟩
    have n0_ := Aside0.mk (blk_below (g := gb209) (o := .cells #[.int .u64 a0_0, .int .u64 a0_1, .int .u64 a0_2, .string a0_3, .string a0_4] 26 (0, 0)) (by (with_reducible repeat (first | refine blk_drewN ?_ _ | refine blk_drew ?_ | refine blk_alloc ?_ _)); exact BK209.out) hb)
    have n1_ := Aside0.mk (blk_below (g := gb210) (o := .cells #[.int .u64 a1_0, .int .u64 a1_1, .int .u64 a1_2, .string a1_3, .string a1_4] 26 (0, 0)) (by (with_reducible repeat (first | refine blk_drewN ?_ _ | refine blk_drew ?_ | refine blk_alloc ?_ _)); exact BK210.out) hb)
    have n2_ := Aside0.mk (blk_below (g := gb211) (o := .cells #[.int .u64 0, .int .u64 0, .int .u64 0, .string (⟨#[]⟩ : ByteArray), .string (⟨#[]⟩ : ByteArray)] 26 (0, 0)) (by (with_reducible repeat (first | refine blk_drewN ?_ _ | refine blk_drew ?_ | refine blk_alloc ?_ _)); exact BK211.out) hb)
    have n3_ := Aside0.mk (blk_below (g := gb212) (o := .cells #[.int .u64 0, .int .u64 0, .int .u64 0, .string (⟨#[]⟩ : ByteArray), .string (⟨#[]⟩ : ByteArray)] 26 (0, 0)) (by (with_reducible repeat (first | refine blk_drewN ?_ _ | refine blk_drew ?_ | refine blk_alloc ?_ _)); exact BK212.out) hb)
    have n4_ := Aside0.mk (below_step (by repeat (first | (with_reducible first | exact HB.out | apply below_alloc | apply pw_below_drewN | apply below_drew1 | refine below_set ?_ GE209.out | refine below_set ?_ GE210.out | refine below_set ?_ GE211.out | refine below_set ?_ GE212.out) | exact HB.out)) hb)
    clear BK209
    clear BK210
    clear BK211
    clear BK212
    clear HB
    have BK209 := n0_
    have BK210 := n1_
    have BK211 := n2_
    have BK212 := n3_
    have HB := n4_
    clear n0_ n1_ n2_ n3_ n4_
    (try clear hb)
    (try clear hb2)
    (try clear hk)
    (try clear hi)
    refine hK.out _ _ ⟨(blk_cell BK209.out 0).trans rfl, (blk_cell BK209.out 1).trans rfl, (blk_cell BK209.out 2).trans rfl, (blk_cell BK209.out 3).trans rfl, (blk_cell BK209.out 4).trans rfl, (blk_cell BK210.out 0).trans rfl, (blk_cell BK210.out 1).trans rfl, (blk_cell BK210.out 2).trans rfl, (blk_cell BK210.out 3).trans rfl, (blk_cell BK210.out 4).trans rfl⟩ (fun hHeld => ?_)
    clear hK K
    refine norm_ (a' := ?_) ?_ ?_
    rotate_left
    · show Act.put _ (some 10) _ = _
      simp only [Act.put, List.setIfInBounds_toArray, List.set_cons_zero, List.set_cons_succ, i64_w, i32_w]
      rfl
    refine one_ (i := 3) (N := some 12) #[true, true, true, true, true, true, false, false, false, false, false, false, false] rfl rfl (one_of HT_.out (by kernel_rfl)) (by decide) (fun K hK => ?_)
    refine goes_ Tryd.func41 (by kernel_rfl) rfl #[.agg #[.int .u64 a1_0, .int .u64 a1_1, .int .u64 a1_2, .string a1_3, .string a1_4]] (by rfl) rfl rfl (by (try simp only [List.map_toArray, List.map_cons, List.map_nil]); first | done | rfl | (simp only [List.length_drop, List.length_take]; rfl)) ?_
    with_reducible refine (spec_Bare.calls a1_0 a1_1 a1_2 a1_3 a1_4 t218 t219 t220 t221 t222 _ A5.out).mono ?_
    rintro e w30 ⟨rfl, hb⟩
    refine ⟨_, rfl, ?_⟩
    have n0_ := Aside0.mk (blk_below (g := gb209) (o := .cells #[.int .u64 a0_0, .int .u64 a0_1, .int .u64 a0_2, .string a0_3, .string a0_4] 26 (0, 0)) (by (with_reducible repeat (first | refine blk_drewN ?_ _ | refine blk_drew ?_ | refine blk_alloc ?_ _)); exact BK209.out) hb)
    have n1_ := Aside0.mk (blk_below (g := gb210) (o := .cells #[.int .u64 a1_0, .int .u64 a1_1, .int .u64 a1_2, .string a1_3, .string a1_4] 26 (0, 0)) (by (with_reducible repeat (first | refine blk_drewN ?_ _ | refine blk_drew ?_ | refine blk_alloc ?_ _)); exact BK210.out) hb)
    have n2_ := Aside0.mk (blk_below (g := gb211) (o := .cells #[.int .u64 0, .int .u64 0, .int .u64 0, .string (⟨#[]⟩ : ByteArray), .string (⟨#[]⟩ : ByteArray)] 26 (0, 0)) (by (with_reducible repeat (first | refine blk_drewN ?_ _ | refine blk_drew ?_ | refine blk_alloc ?_ _)); exact BK211.out) hb)
    have n3_ := Aside0.mk (blk_below (g := gb212) (o := .cells #[.int .u64 0, .int .u64 0, .int .u64 0, .string (⟨#[]⟩ : ByteArray), .string (⟨#[]⟩ : ByteArray)] 26 (0, 0)) (by (with_reducible repeat (first | refine blk_drewN ?_ _ | refine blk_drew ?_ | refine blk_alloc ?_ _)); exact BK212.out) hb)
    have n4_ := Aside0.mk (below_step (by repeat (first | (with_reducible first | exact HB.out | apply below_alloc | apply pw_below_drewN | apply below_drew1 | refine below_set ?_ GE209.out | refine below_set ?_ GE210.out | refine below_set ?_ GE211.out | refine below_set ?_ GE212.out) | exact HB.out)) hb)
    clear BK209
    clear BK210
    clear BK211
    clear BK212
    clear HB
    have BK209 := n0_
    have BK210 := n1_
    have BK211 := n2_
    have BK212 := n3_
    have HB := n4_
    clear n0_ n1_ n2_ n3_ n4_
    (try clear hb)
    (try clear hb2)
    (try clear hk)
    (try clear hi)
    refine hK.out _ _ ⟨(blk_cell BK209.out 0).trans rfl, (blk_cell BK209.out 1).trans rfl, (blk_cell BK209.out 2).trans rfl, (blk_cell BK209.out 3).trans rfl, (blk_cell BK209.out 4).trans rfl, (blk_cell BK210.out 0).trans rfl, (blk_cell BK210.out 1).trans rfl, (blk_cell BK210.out 2).trans rfl, (blk_cell BK210.out 3).trans rfl, (blk_cell BK210.out 4).trans rfl⟩ (fun hHeld => ?_)
    clear hK K
    refine norm_ (a' := ?_) ?_ ?_
    rotate_left
    · show Act.put _ (some 12) _ = _
      simp only [Act.put, List.setIfInBounds_toArray, List.set_cons_zero, List.set_cons_succ, i64_w, i32_w]
      rfl
    refine pure_ (i := 6) (N := some 15) (v := ?_) (a' := ?_) #[true, true, true, true, true, true, true, false, false, false, false, false, false] rfl rfl (any_of HT_.out (by kernel_rfl)) (fun _ _ _ h => h) (Or.inl ⟨by rfl, ?_⟩) ?_ ?_
    rotate_left
    · intro w'
      go_simp
      with_reducible rfl
    rotate_left
    · simp only [Act.put, List.setIfInBounds_toArray, List.set_cons_zero, List.set_cons_succ, i64_w, i32_w]
      rfl
    refine pure_ (i := 7) (N := some 16) (v := undef) (a' := ?_) #[true, true, true, true, true, true, true, true, false, false, false, false, false] rfl rfl (any_of HT_.out (by kernel_rfl)) (fun _ _ _ h => h) (Or.inr ⟨by rfl, rfl⟩) ?_ ?_
    rotate_left
    · simp only [Act.put, List.setIfInBounds_toArray, List.set_cons_zero, List.set_cons_succ, i64_w, i32_w]
      rfl
    refine pure_ (i := 8) (N := some 17) (v := undef) (a' := ?_) #[true, true, true, true, true, true, true, true, true, false, false, false, false] rfl rfl (any_of HT_.out (by kernel_rfl)) (fun _ _ _ h => h) (Or.inr ⟨by rfl, rfl⟩) ?_ ?_
    rotate_left
    · simp only [Act.put, List.setIfInBounds_toArray, List.set_cons_zero, List.set_cons_succ, i64_w, i32_w]
      rfl
    refine pure_ (i := 9) (N := some 18) (v := ?_) (a' := ?_) #[true, true, true, true, true, true, true, true, true, true, false, false, false] rfl rfl (any_of HT_.out (by kernel_rfl)) (fun _ _ _ h => h) (Or.inl ⟨by rfl, ?_⟩) ?_ ?_
    rotate_left
    · intro w'
      go_simp
      with_reducible rfl
    rotate_left
    · simp only [Act.put, List.setIfInBounds_toArray, List.set_cons_zero, List.set_cons_succ, i64_w, i32_w]
      rfl
    refine one_ (i := 10) (N := none) #[true, true, true, true, true, true, true, true, true, true, true, false, false] rfl rfl (one_of HT_.out (by kernel_rfl)) (by decide) (fun K hK => ?_)
    have hs31 : w30.cell? ⟨gb211, 0, none⟩ = some (.int .u64 0) := (blk_cell BK211.out 0).trans rfl
    have hfs31 := blk_frozen BK211.out 0
    have hns31_0 := NB209_211.out
    have hns31_1 := NB210_211.out
    have hns31_3 := NB212_211.out
    have hms31_0 := NB211_209.out
    have hms31_1 := NB211_210.out
    have hms31_3 := NB211_212.out
    have hs32 : w30.cell? ⟨gb211, 1, none⟩ = some (.int .u64 0) := (blk_cell BK211.out 1).trans rfl
    have hfs32 := blk_frozen BK211.out 1
    have hns32_0 := NB209_211.out
    have hns32_1 := NB210_211.out
    have hns32_3 := NB212_211.out
    have hms32_0 := NB211_209.out
    have hms32_1 := NB211_210.out
    have hms32_3 := NB211_212.out
    have hs33 : w30.cell? ⟨gb211, 2, none⟩ = some (.int .u64 0) := (blk_cell BK211.out 2).trans rfl
    have hfs33 := blk_frozen BK211.out 2
    have hns33_0 := NB209_211.out
    have hns33_1 := NB210_211.out
    have hns33_3 := NB212_211.out
    have hms33_0 := NB211_209.out
    have hms33_1 := NB211_210.out
    have hms33_3 := NB211_212.out
    have hs34 : w30.cell? ⟨gb211, 3, none⟩ = some (.string (⟨#[]⟩ : ByteArray)) := (blk_cell BK211.out 3).trans rfl
    have hfs34 := blk_frozen BK211.out 3
    have hns34_0 := NB209_211.out
    have hns34_1 := NB210_211.out
    have hns34_3 := NB212_211.out
    have hms34_0 := NB211_209.out
    have hms34_1 := NB211_210.out
    have hms34_3 := NB211_212.out
    have hs35 : w30.cell? ⟨gb211, 4, none⟩ = some (.string (⟨#[]⟩ : ByteArray)) := (blk_cell BK211.out 4).trans rfl
    have hfs35 := blk_frozen BK211.out 4
    have hns35_0 := NB209_211.out
    have hns35_1 := NB210_211.out
    have hns35_3 := NB212_211.out
    have hms35_0 := NB211_209.out
    have hms35_1 := NB211_210.out
    have hms35_3 := NB211_212.out
    refine skip_ (w1 := ?_) (by rfl) rfl ?_ ?_
    rotate_left
    · go_simp
      rfl
    refine hK.out _ _ ⟨((cell_far (p := ⟨gb211, _, none⟩) NB209_211.out _).trans (((cell_far (p := ⟨gb211, _, none⟩) NB209_211.out _).trans (((cell_far (p := ⟨gb211, _, none⟩) NB209_211.out _).trans (((cell_far (p := ⟨gb211, _, none⟩) NB209_211.out _).trans (((cell_far (p := ⟨gb211, _, none⟩) NB209_211.out _).trans (hHeld.1)))))))))), ((cell_far (p := ⟨gb211, _, none⟩) NB209_211.out _).trans (((cell_far (p := ⟨gb211, _, none⟩) NB209_211.out _).trans (((cell_far (p := ⟨gb211, _, none⟩) NB209_211.out _).trans (((cell_far (p := ⟨gb211, _, none⟩) NB209_211.out _).trans (((cell_far (p := ⟨gb211, _, none⟩) NB209_211.out _).trans (hHeld.2.1)))))))))), ((cell_far (p := ⟨gb211, _, none⟩) NB209_211.out _).trans (((cell_far (p := ⟨gb211, _, none⟩) NB209_211.out _).trans (((cell_far (p := ⟨gb211, _, none⟩) NB209_211.out _).trans (((cell_far (p := ⟨gb211, _, none⟩) NB209_211.out _).trans (((cell_far (p := ⟨gb211, _, none⟩) NB209_211.out _).trans (hHeld.2.2.1)))))))))), ((cell_far (p := ⟨gb211, _, none⟩) NB209_211.out _).trans (((cell_far (p := ⟨gb211, _, none⟩) NB209_211.out _).trans (((cell_far (p := ⟨gb211, _, none⟩) NB209_211.out _).trans (((cell_far (p := ⟨gb211, _, none⟩) NB209_211.out _).trans (((cell_far (p := ⟨gb211, _, none⟩) NB209_211.out _).trans (hHeld.2.2.2.1)))))))))), ((cell_far (p := ⟨gb211, _, none⟩) NB209_211.out _).trans (((cell_far (p := ⟨gb211, _, none⟩) NB209_211.out _).trans (((cell_far (p := ⟨gb211, _, none⟩) NB209_211.out _).trans (((cell_far (p := ⟨gb211, _, none⟩) NB209_211.out _).trans (((cell_far (p := ⟨gb211, _, none⟩) NB209_211.out _).trans (hHeld.2.2.2.2.1)))))))))), ((cell_far (p := ⟨gb211, _, none⟩) NB210_211.out _).trans (((cell_far (p := ⟨gb211, _, none⟩) NB210_211.out _).trans (((cell_far (p := ⟨gb211, _, none⟩) NB210_211.out _).trans (((cell_far (p := ⟨gb211, _, none⟩) NB210_211.out _).trans (((cell_far (p := ⟨gb211, _, none⟩) NB210_211.out _).trans (hHeld.2.2.2.2.2.1)))))))))), ((cell_far (p := ⟨gb211, _, none⟩) NB210_211.out _).trans (((cell_far (p := ⟨gb211, _, none⟩) NB210_211.out _).trans (((cell_far (p := ⟨gb211, _, none⟩) NB210_211.out _).trans (((cell_far (p := ⟨gb211, _, none⟩) NB210_211.out _).trans (((cell_far (p := ⟨gb211, _, none⟩) NB210_211.out _).trans (hHeld.2.2.2.2.2.2.1)))))))))), ((cell_far (p := ⟨gb211, _, none⟩) NB210_211.out _).trans (((cell_far (p := ⟨gb211, _, none⟩) NB210_211.out _).trans (((cell_far (p := ⟨gb211, _, none⟩) NB210_211.out _).trans (((cell_far (p := ⟨gb211, _, none⟩) NB210_211.out _).trans (((cell_far (p := ⟨gb211, _, none⟩) NB210_211.out _).trans (hHeld.2.2.2.2.2.2.2.1)))))))))), ((cell_far (p := ⟨gb211, _, none⟩) NB210_211.out _).trans (((cell_far (p := ⟨gb211, _, none⟩) NB210_211.out _).trans (((cell_far (p := ⟨gb211, _, none⟩) NB210_211.out _).trans (((cell_far (p := ⟨gb211, _, none⟩) NB210_211.out _).trans (((cell_far (p := ⟨gb211, _, none⟩) NB210_211.out _).trans (hHeld.2.2.2.2.2.2.2.2.1)))))))))), ((cell_far (p := ⟨gb211, _, none⟩) NB210_211.out _).trans (((cell_far (p := ⟨gb211, _, none⟩) NB210_211.out _).trans (((cell_far (p := ⟨gb211, _, none⟩) NB210_211.out _).trans (((cell_far (p := ⟨gb211, _, none⟩) NB210_211.out _).trans (((cell_far (p := ⟨gb211, _, none⟩) NB210_211.out _).trans (hHeld.2.2.2.2.2.2.2.2.2))))))))))⟩ (fun hHeld => ?_)
    clear hK K
    refine one_ (i := 11) (N := none) #[true, true, true, true, true, true, true, true, true, true, true, true, false] rfl rfl (one_of HT_.out (by kernel_rfl)) (by decide) (fun K hK => ?_)
    have hs36 : w30.cell? ⟨gb212, 0, none⟩ = some (.int .u64 0) := (blk_cell BK212.out 0).trans rfl
    have hfs36 := blk_frozen BK212.out 0
    have hns36_0 := NB209_212.out
    have hns36_1 := NB210_212.out
    have hns36_2 := NB211_212.out
    have hms36_0 := NB212_209.out
    have hms36_1 := NB212_210.out
    have hms36_2 := NB212_211.out
    have hs37 : w30.cell? ⟨gb212, 1, none⟩ = some (.int .u64 0) := (blk_cell BK212.out 1).trans rfl
    have hfs37 := blk_frozen BK212.out 1
    have hns37_0 := NB209_212.out
    have hns37_1 := NB210_212.out
    have hns37_2 := NB211_212.out
    have hms37_0 := NB212_209.out
    have hms37_1 := NB212_210.out
    have hms37_2 := NB212_211.out
    have hs38 : w30.cell? ⟨gb212, 2, none⟩ = some (.int .u64 0) := (blk_cell BK212.out 2).trans rfl
    have hfs38 := blk_frozen BK212.out 2
    have hns38_0 := NB209_212.out
    have hns38_1 := NB210_212.out
    have hns38_2 := NB211_212.out
    have hms38_0 := NB212_209.out
    have hms38_1 := NB212_210.out
    have hms38_2 := NB212_211.out
    have hs39 : w30.cell? ⟨gb212, 3, none⟩ = some (.string (⟨#[]⟩ : ByteArray)) := (blk_cell BK212.out 3).trans rfl
    have hfs39 := blk_frozen BK212.out 3
    have hns39_0 := NB209_212.out
    have hns39_1 := NB210_212.out
    have hns39_2 := NB211_212.out
    have hms39_0 := NB212_209.out
    have hms39_1 := NB212_210.out
    have hms39_2 := NB212_211.out
    have hs40 : w30.cell? ⟨gb212, 4, none⟩ = some (.string (⟨#[]⟩ : ByteArray)) := (blk_cell BK212.out 4).trans rfl
    have hfs40 := blk_frozen BK212.out 4
    have hns40_0 := NB209_212.out
    have hns40_1 := NB210_212.out
    have hns40_2 := NB211_212.out
    have hms40_0 := NB212_209.out
    have hms40_1 := NB212_210.out
    have hms40_2 := NB212_211.out
    refine skip_ (w1 := ?_) (by rfl) rfl ?_ ?_
    rotate_left
    · go_simp
      rfl
    refine hK.out _ _ ⟨((cell_far (p := ⟨gb212, _, none⟩) NB209_212.out _).trans (((cell_far (p := ⟨gb212, _, none⟩) NB209_212.out _).trans (((cell_far (p := ⟨gb212, _, none⟩) NB209_212.out _).trans (((cell_far (p := ⟨gb212, _, none⟩) NB209_212.out _).trans (((cell_far (p := ⟨gb212, _, none⟩) NB209_212.out _).trans (hHeld.1)))))))))), ((cell_far (p := ⟨gb212, _, none⟩) NB209_212.out _).trans (((cell_far (p := ⟨gb212, _, none⟩) NB209_212.out _).trans (((cell_far (p := ⟨gb212, _, none⟩) NB209_212.out _).trans (((cell_far (p := ⟨gb212, _, none⟩) NB209_212.out _).trans (((cell_far (p := ⟨gb212, _, none⟩) NB209_212.out _).trans (hHeld.2.1)))))))))), ((cell_far (p := ⟨gb212, _, none⟩) NB209_212.out _).trans (((cell_far (p := ⟨gb212, _, none⟩) NB209_212.out _).trans (((cell_far (p := ⟨gb212, _, none⟩) NB209_212.out _).trans (((cell_far (p := ⟨gb212, _, none⟩) NB209_212.out _).trans (((cell_far (p := ⟨gb212, _, none⟩) NB209_212.out _).trans (hHeld.2.2.1)))))))))), ((cell_far (p := ⟨gb212, _, none⟩) NB209_212.out _).trans (((cell_far (p := ⟨gb212, _, none⟩) NB209_212.out _).trans (((cell_far (p := ⟨gb212, _, none⟩) NB209_212.out _).trans (((cell_far (p := ⟨gb212, _, none⟩) NB209_212.out _).trans (((cell_far (p := ⟨gb212, _, none⟩) NB209_212.out _).trans (hHeld.2.2.2.1)))))))))), ((cell_far (p := ⟨gb212, _, none⟩) NB209_212.out _).trans (((cell_far (p := ⟨gb212, _, none⟩) NB209_212.out _).trans (((cell_far (p := ⟨gb212, _, none⟩) NB209_212.out _).trans (((cell_far (p := ⟨gb212, _, none⟩) NB209_212.out _).trans (((cell_far (p := ⟨gb212, _, none⟩) NB209_212.out _).trans (hHeld.2.2.2.2.1)))))))))), ((cell_far (p := ⟨gb212, _, none⟩) NB210_212.out _).trans (((cell_far (p := ⟨gb212, _, none⟩) NB210_212.out _).trans (((cell_far (p := ⟨gb212, _, none⟩) NB210_212.out _).trans (((cell_far (p := ⟨gb212, _, none⟩) NB210_212.out _).trans (((cell_far (p := ⟨gb212, _, none⟩) NB210_212.out _).trans (hHeld.2.2.2.2.2.1)))))))))), ((cell_far (p := ⟨gb212, _, none⟩) NB210_212.out _).trans (((cell_far (p := ⟨gb212, _, none⟩) NB210_212.out _).trans (((cell_far (p := ⟨gb212, _, none⟩) NB210_212.out _).trans (((cell_far (p := ⟨gb212, _, none⟩) NB210_212.out _).trans (((cell_far (p := ⟨gb212, _, none⟩) NB210_212.out _).trans (hHeld.2.2.2.2.2.2.1)))))))))), ((cell_far (p := ⟨gb212, _, none⟩) NB210_212.out _).trans (((cell_far (p := ⟨gb212, _, none⟩) NB210_212.out _).trans (((cell_far (p := ⟨gb212, _, none⟩) NB210_212.out _).trans (((cell_far (p := ⟨gb212, _, none⟩) NB210_212.out _).trans (((cell_far (p := ⟨gb212, _, none⟩) NB210_212.out _).trans (hHeld.2.2.2.2.2.2.2.1)))))))))), ((cell_far (p := ⟨gb212, _, none⟩) NB210_212.out _).trans (((cell_far (p := ⟨gb212, _, none⟩) NB210_212.out _).trans (((cell_far (p := ⟨gb212, _, none⟩) NB210_212.out _).trans (((cell_far (p := ⟨gb212, _, none⟩) NB210_212.out _).trans (((cell_far (p := ⟨gb212, _, none⟩) NB210_212.out _).trans (hHeld.2.2.2.2.2.2.2.2.1)))))))))), ((cell_far (p := ⟨gb212, _, none⟩) NB210_212.out _).trans (((cell_far (p := ⟨gb212, _, none⟩) NB210_212.out _).trans (((cell_far (p := ⟨gb212, _, none⟩) NB210_212.out _).trans (((cell_far (p := ⟨gb212, _, none⟩) NB210_212.out _).trans (((cell_far (p := ⟨gb212, _, none⟩) NB210_212.out _).trans (hHeld.2.2.2.2.2.2.2.2.2))))))))))⟩ (fun hHeld => ?_)
    clear hK K
    refine pure_ (i := 12) (N := some 8) (v := ?_) (a' := ?_) #[true, true, true, true, true, true, true, true, true, true, true, true, true] rfl rfl (any_of HT_.out (by kernel_rfl)) (fun _ _ _ h => h) (Or.inl ⟨by rfl, ?_⟩) ?_ ?_
    rotate_left
    · intro w'
      go_simp
      with_reducible rfl
    rotate_left
    · simp only [Act.put, List.setIfInBounds_toArray, List.set_cons_zero, List.set_cons_succ, i64_w, i32_w]
      rfl
    refine done_ (done_of HT_.out (by kernel_rfl)) ?_
    try go_wp2
    refine bodyPost_ret (results_list (rs := [.cell 6 26, .cell 7 26, .tmp 8]) rfl (by simp) (.cell gb211 26 #[.int .u64 t213, .int .u64 t214, .int .u64 t215, .string t216, .string t217] (0, 0) _ rfl (by (with_reducible repeat (first | refine blk_drewN ?_ _ | refine blk_drew ?_ | refine blk_alloc ?_ _)); refine blk_far ?_ NB211_212.out _; (with_reducible repeat (first | refine blk_drewN ?_ _ | refine blk_drew ?_ | refine blk_alloc ?_ _)); refine blk_far ?_ NB211_212.out _; (with_reducible repeat (first | refine blk_drewN ?_ _ | refine blk_drew ?_ | refine blk_alloc ?_ _)); refine blk_far ?_ NB211_212.out _; (with_reducible repeat (first | refine blk_drewN ?_ _ | refine blk_drew ?_ | refine blk_alloc ?_ _)); refine blk_far ?_ NB211_212.out _; (with_reducible repeat (first | refine blk_drewN ?_ _ | refine blk_drew ?_ | refine blk_alloc ?_ _)); refine blk_far ?_ NB211_212.out _; (with_reducible repeat (first | refine blk_drewN ?_ _ | refine blk_drew ?_ | refine blk_alloc ?_ _)); refine blk_put (cs := #[.int .u64 t213, .int .u64 t214, .int .u64 t215, .string t216, .string (⟨#[]⟩ : ByteArray)]) ?_ 4 _ rfl; (with_reducible repeat (first | refine blk_drewN ?_ _ | refine blk_drew ?_ | refine blk_alloc ?_ _)); refine blk_put (cs := #[.int .u64 t213, .int .u64 t214, .int .u64 t215, .string (⟨#[]⟩ : ByteArray), .string (⟨#[]⟩ : ByteArray)]) ?_ 3 _ rfl; (with_reducible repeat (first | refine blk_drewN ?_ _ | refine blk_drew ?_ | refine blk_alloc ?_ _)); refine blk_put (cs := #[.int .u64 t213, .int .u64 t214, .int .u64 0, .string (⟨#[]⟩ : ByteArray), .string (⟨#[]⟩ : ByteArray)]) ?_ 2 _ rfl; (with_reducible repeat (first | refine blk_drewN ?_ _ | refine blk_drew ?_ | refine blk_alloc ?_ _)); refine blk_put (cs := #[.int .u64 t213, .int .u64 0, .int .u64 0, .string (⟨#[]⟩ : ByteArray), .string (⟨#[]⟩ : ByteArray)]) ?_ 1 _ rfl; (with_reducible repeat (first | refine blk_drewN ?_ _ | refine blk_drew ?_ | refine blk_alloc ?_ _)); refine blk_put (cs := #[.int .u64 0, .int .u64 0, .int .u64 0, .string (⟨#[]⟩ : ByteArray), .string (⟨#[]⟩ : ByteArray)]) ?_ 0 _ rfl; (with_reducible repeat (first | refine blk_drewN ?_ _ | refine blk_drew ?_ | refine blk_alloc ?_ _)); exact BK211.out) Tryd.underlying26 rfl (by kernel_rfl) (.cell gb212 26 #[.int .u64 t218, .int .u64 t219, .int .u64 t220, .string t221, .string t222] (0, 0) _ rfl (by (with_reducible repeat (first | refine blk_drewN ?_ _ | refine blk_drew ?_ | refine blk_alloc ?_ _)); refine blk_put (cs := #[.int .u64 t218, .int .u64 t219, .int .u64 t220, .string t221, .string (⟨#[]⟩ : ByteArray)]) ?_ 4 _ rfl; (with_reducible repeat (first | refine blk_drewN ?_ _ | refine blk_drew ?_ | refine blk_alloc ?_ _)); refine blk_put (cs := #[.int .u64 t218, .int .u64 t219, .int .u64 t220, .string (⟨#[]⟩ : ByteArray), .string (⟨#[]⟩ : ByteArray)]) ?_ 3 _ rfl; (with_reducible repeat (first | refine blk_drewN ?_ _ | refine blk_drew ?_ | refine blk_alloc ?_ _)); refine blk_put (cs := #[.int .u64 t218, .int .u64 t219, .int .u64 0, .string (⟨#[]⟩ : ByteArray), .string (⟨#[]⟩ : ByteArray)]) ?_ 2 _ rfl; (with_reducible repeat (first | refine blk_drewN ?_ _ | refine blk_drew ?_ | refine blk_alloc ?_ _)); refine blk_put (cs := #[.int .u64 t218, .int .u64 0, .int .u64 0, .string (⟨#[]⟩ : ByteArray), .string (⟨#[]⟩ : ByteArray)]) ?_ 1 _ rfl; (with_reducible repeat (first | refine blk_drewN ?_ _ | refine blk_drew ?_ | refine blk_alloc ?_ _)); refine blk_put (cs := #[.int .u64 0, .int .u64 0, .int .u64 0, .string (⟨#[]⟩ : ByteArray), .string (⟨#[]⟩ : ByteArray)]) ?_ 0 _ rfl; (with_reducible repeat (first | refine blk_drewN ?_ _ | refine blk_drew ?_ | refine blk_alloc ?_ _)); refine blk_far ?_ NB212_211.out _; (with_reducible repeat (first | refine blk_drewN ?_ _ | refine blk_drew ?_ | refine blk_alloc ?_ _)); refine blk_far ?_ NB212_211.out _; (with_reducible repeat (first | refine blk_drewN ?_ _ | refine blk_drew ?_ | refine blk_alloc ?_ _)); refine blk_far ?_ NB212_211.out _; (with_reducible repeat (first | refine blk_drewN ?_ _ | refine blk_drew ?_ | refine blk_alloc ?_ _)); refine blk_far ?_ NB212_211.out _; (with_reducible repeat (first | refine blk_drewN ?_ _ | refine blk_drew ?_ | refine blk_alloc ?_ _)); refine blk_far ?_ NB212_211.out _; (with_reducible repeat (first | refine blk_drewN ?_ _ | refine blk_drew ?_ | refine blk_alloc ?_ _)); exact BK212.out) Tryd.underlying26 rfl (by kernel_rfl) (.tmp .nil)))) rfl ?_
    exact ⟨by first | rfl | (simp [errW_none, errW_some] <;> rfl) | (simp [*, errW_none, errW_some] <;> rfl) | (simp [bneNil]; done), by repeat (first | (with_reducible first | exact HB.out | apply below_alloc | apply pw_below_drewN | apply below_drew1 | refine below_set ?_ GE209.out | refine below_set ?_ GE210.out | refine below_set ?_ GE211.out | refine below_set ?_ GE212.out) | exact HB.out)⟩

def laws_scPlus.f (a0_0 : Int) (a0_1 : Int) (a0_2 : Int) (a0_3 : ByteArray) (a0_4 : ByteArray) (a1 : Int) : Option (Bool) := if (IntKind.u64.wrap (a0_0 + 1)) = 0 then (some false) else (if a1 < 2 then (if a1 < 3 then (some true) else (some ((IntKind.u64.wrap (a0_2 + 1)) != 0))) else (if (IntKind.u64.wrap (a0_1 + 1)) = 0 then (some false) else (if a1 < 3 then (some true) else (some ((IntKind.u64.wrap (a0_2 + 1)) != 0)))))

set_option maxHeartbeats 80000000 in
set_option maxRecDepth 100000 in
theorem laws_scPlus.calls (a0_0 : Int) (a0_1 : Int) (a0_2 : Int) (a0_3 : ByteArray) (a0_4 : ByteArray) (a1 : Int) (r : Bool) (w : World) (h : laws_scPlus.f a0_0 a0_1 a0_2 a0_3 a0_4 a1 = some r) :
    Calls Tryd.prog 22 #[.agg #[.int .u64 a0_0, .int .u64 a0_1, .int .u64 a0_2, .string a0_3, .string a0_4], .int .i64 a1] w fun e w' => e = .returned (.bool r) ∧ Below w.heap.size w w' := by
  have hu26 := Tryd.underlying26
  have HB := Aside0.mk (Below.refl w.heap.size w)
  have H : (if (IntKind.u64.wrap (a0_0 + 1)) = 0 then (some false) else (if a1 < 2 then (if a1 < 3 then (some true) else (some ((IntKind.u64.wrap (a0_2 + 1)) != 0))) else (if (IntKind.u64.wrap (a0_1 + 1)) = 0 then (some false) else (if a1 < 3 then (some true) else (some ((IntKind.u64.wrap (a0_2 + 1)) != 0)))))) = some r := h
  clear h
  by_cases c3 : (IntKind.u64.wrap (a0_0 + 1)) = 0
  · rw [if_pos c3] at H
    have c3b0 : ((IntKind.u64.wrap (a0_0 + 1)) == 0) = true := beq_iff_eq.mpr c3
    have c3b1 : ((IntKind.u64.wrap (a0_0 + 1)) != 0) = false := bne_eq_false_iff_eq.mpr c3
    clear c3
    obtain rfl := Option.some.inj H
    go_enter Tryd.func22, Tryd.ntmps22
    go_wp2_with (first | ((with_reducible refine gate_dst (N := 2) rfl ?_); refine box_event ?hg (N := 2) ?hd (cs := #[.int .u64 a0_0, .int .u64 a0_1, .int .u64 a0_2, .string a0_3, .string a0_4]) (t := 26) ?hr ?_; (case hd => rfl); (case hg => rfl); (case hr => first | (go_simp; done) | (go_simp; rfl) | (go_simp; simp [u8w]; done)); intro gb225 hg w4 hbox hb; have n0_ := Aside0.mk (below_step (by repeat (first | (with_reducible first | exact HB.out | apply below_alloc | apply pw_below_drewN | apply below_drew1) | exact HB.out)) hb); have n1_ := Aside0.mk (hbox); have n2_ := Aside0.mk ((by rw [hg]; exact (below_size (by repeat (first | (with_reducible first | exact HB.out | apply below_alloc | apply pw_below_drewN | apply below_drew1) | exact HB.out))) : w.heap.size ≤ gb225)); have n3_ := Aside0.mk ((by rw [hg]; exact (below_size (by repeat (first | (with_reducible first | exact HB.out | apply below_alloc | apply pw_below_drewN | apply below_drew1) | exact HB.out))) : w.heap.size ≤ gb225)); clear HB; have HB := n0_; have BK225 := n1_; have GW225 := n2_; have GE225 := n3_; clear n0_ n1_ n2_ n3_; clear hb hbox hg; have hcz5_0 : w4.cell? ⟨gb225, 0, none⟩ = some (.int .u64 a0_0) := (blk_cell BK225.out 0).trans rfl; have hcz5_1 : w4.cell? ⟨gb225, 1, none⟩ = some (.int .u64 a0_1) := (blk_cell BK225.out 1).trans rfl; have hcz5_2 : w4.cell? ⟨gb225, 2, none⟩ = some (.int .u64 a0_2) := (blk_cell BK225.out 2).trans rfl; have hcz5_3 : w4.cell? ⟨gb225, 3, none⟩ = some (.string a0_3) := (blk_cell BK225.out 3).trans rfl; have hcz5_4 : w4.cell? ⟨gb225, 4, none⟩ = some (.string a0_4) := (blk_cell BK225.out 4).trans rfl; have hfz5_0 := blk_frozen BK225.out 0; have hfz5_1 := blk_frozen BK225.out 1; have hfz5_2 := blk_frozen BK225.out 2; have hfz5_3 := blk_frozen BK225.out 3; have hfz5_4 := blk_frozen BK225.out 4))
    go_ret
    exact ⟨by first | rfl | (simp [errW_none, errW_some] <;> rfl) | (simp [*, errW_none, errW_some] <;> rfl) | (simp [bneNil]; done), by repeat (first | (with_reducible first | exact HB.out | apply below_alloc | apply pw_below_drewN | apply below_drew1 | refine below_set ?_ GE225.out) | exact HB.out)⟩
  · rw [if_neg c3] at H
    have c3b0 : ((IntKind.u64.wrap (a0_0 + 1)) == 0) = false := beq_eq_false_iff_ne.mpr c3
    have c3b1 : ((IntKind.u64.wrap (a0_0 + 1)) != 0) = true := bne_iff_ne.mpr c3
    by_cases c6 : a1 < 2
    · rw [if_pos c6] at H
      have c6b0 : decide (a1 < 2) = true := decide_eq_true c6
      clear c6
      by_cases c7 : a1 < 3
      · rw [if_pos c7] at H
        have c7b0 : decide (a1 < 3) = true := decide_eq_true c7
        clear c7
        obtain rfl := Option.some.inj H
        go_enter Tryd.func22, Tryd.ntmps22
        go_wp2_with (first | ((with_reducible refine gate_dst (N := 2) rfl ?_); refine box_event ?hg (N := 2) ?hd (cs := #[.int .u64 a0_0, .int .u64 a0_1, .int .u64 a0_2, .string a0_3, .string a0_4]) (t := 26) ?hr ?_; (case hd => rfl); (case hg => rfl); (case hr => first | (go_simp; done) | (go_simp; rfl) | (go_simp; simp [u8w]; done)); intro gb225 hg w8 hbox hb; have n0_ := Aside0.mk (below_step (by repeat (first | (with_reducible first | exact HB.out | apply below_alloc | apply pw_below_drewN | apply below_drew1) | exact HB.out)) hb); have n1_ := Aside0.mk (hbox); have n2_ := Aside0.mk ((by rw [hg]; exact (below_size (by repeat (first | (with_reducible first | exact HB.out | apply below_alloc | apply pw_below_drewN | apply below_drew1) | exact HB.out))) : w.heap.size ≤ gb225)); have n3_ := Aside0.mk ((by rw [hg]; exact (below_size (by repeat (first | (with_reducible first | exact HB.out | apply below_alloc | apply pw_below_drewN | apply below_drew1) | exact HB.out))) : w.heap.size ≤ gb225)); clear HB; have HB := n0_; have BK225 := n1_; have GW225 := n2_; have GE225 := n3_; clear n0_ n1_ n2_ n3_; clear hb hbox hg; have hcz9_0 : w8.cell? ⟨gb225, 0, none⟩ = some (.int .u64 a0_0) := (blk_cell BK225.out 0).trans rfl; have hcz9_1 : w8.cell? ⟨gb225, 1, none⟩ = some (.int .u64 a0_1) := (blk_cell BK225.out 1).trans rfl; have hcz9_2 : w8.cell? ⟨gb225, 2, none⟩ = some (.int .u64 a0_2) := (blk_cell BK225.out 2).trans rfl; have hcz9_3 : w8.cell? ⟨gb225, 3, none⟩ = some (.string a0_3) := (blk_cell BK225.out 3).trans rfl; have hcz9_4 : w8.cell? ⟨gb225, 4, none⟩ = some (.string a0_4) := (blk_cell BK225.out 4).trans rfl; have hfz9_0 := blk_frozen BK225.out 0; have hfz9_1 := blk_frozen BK225.out 1; have hfz9_2 := blk_frozen BK225.out 2; have hfz9_3 := blk_frozen BK225.out 3; have hfz9_4 := blk_frozen BK225.out 4))
        go_ret
        exact ⟨by first | rfl | (simp [errW_none, errW_some] <;> rfl) | (simp [*, errW_none, errW_some] <;> rfl) | (simp [bneNil]; done), by repeat (first | (with_reducible first | exact HB.out | apply below_alloc | apply pw_below_drewN | apply below_drew1 | refine below_set ?_ GE225.out) | exact HB.out)⟩
      · rw [if_neg c7] at H
        have c7b0 : decide (a1 < 3) = false := decide_eq_false c7
        clear c7
        obtain rfl := Option.some.inj H
        go_enter Tryd.func22, Tryd.ntmps22
        go_wp2_with (first | ((with_reducible refine gate_dst (N := 2) rfl ?_); refine box_event ?hg (N := 2) ?hd (cs := #[.int .u64 a0_0, .int .u64 a0_1, .int .u64 a0_2, .string a0_3, .string a0_4]) (t := 26) ?hr ?_; (case hd => rfl); (case hg => rfl); (case hr => first | (go_simp; done) | (go_simp; rfl) | (go_simp; simp [u8w]; done)); intro gb225 hg w10 hbox hb; have n0_ := Aside0.mk (below_step (by repeat (first | (with_reducible first | exact HB.out | apply below_alloc | apply pw_below_drewN | apply below_drew1) | exact HB.out)) hb); have n1_ := Aside0.mk (hbox); have n2_ := Aside0.mk ((by rw [hg]; exact (below_size (by repeat (first | (with_reducible first | exact HB.out | apply below_alloc | apply pw_below_drewN | apply below_drew1) | exact HB.out))) : w.heap.size ≤ gb225)); have n3_ := Aside0.mk ((by rw [hg]; exact (below_size (by repeat (first | (with_reducible first | exact HB.out | apply below_alloc | apply pw_below_drewN | apply below_drew1) | exact HB.out))) : w.heap.size ≤ gb225)); clear HB; have HB := n0_; have BK225 := n1_; have GW225 := n2_; have GE225 := n3_; clear n0_ n1_ n2_ n3_; clear hb hbox hg; have hcz11_0 : w10.cell? ⟨gb225, 0, none⟩ = some (.int .u64 a0_0) := (blk_cell BK225.out 0).trans rfl; have hcz11_1 : w10.cell? ⟨gb225, 1, none⟩ = some (.int .u64 a0_1) := (blk_cell BK225.out 1).trans rfl; have hcz11_2 : w10.cell? ⟨gb225, 2, none⟩ = some (.int .u64 a0_2) := (blk_cell BK225.out 2).trans rfl; have hcz11_3 : w10.cell? ⟨gb225, 3, none⟩ = some (.string a0_3) := (blk_cell BK225.out 3).trans rfl; have hcz11_4 : w10.cell? ⟨gb225, 4, none⟩ = some (.string a0_4) := (blk_cell BK225.out 4).trans rfl; have hfz11_0 := blk_frozen BK225.out 0; have hfz11_1 := blk_frozen BK225.out 1; have hfz11_2 := blk_frozen BK225.out 2; have hfz11_3 := blk_frozen BK225.out 3; have hfz11_4 := blk_frozen BK225.out 4))
        go_ret
        exact ⟨by first | rfl | (simp [errW_none, errW_some] <;> rfl) | (simp [*, errW_none, errW_some] <;> rfl) | (simp [bneNil]; done), by repeat (first | (with_reducible first | exact HB.out | apply below_alloc | apply pw_below_drewN | apply below_drew1 | refine below_set ?_ GE225.out) | exact HB.out)⟩
    · rw [if_neg c6] at H
      have c6b0 : decide (a1 < 2) = false := decide_eq_false c6
      clear c6
      by_cases c12 : (IntKind.u64.wrap (a0_1 + 1)) = 0
      · rw [if_pos c12] at H
        have c12b0 : ((IntKind.u64.wrap (a0_1 + 1)) == 0) = true := beq_iff_eq.mpr c12
        have c12b1 : ((IntKind.u64.wrap (a0_1 + 1)) != 0) = false := bne_eq_false_iff_eq.mpr c12
        clear c12
        obtain rfl := Option.some.inj H
        go_enter Tryd.func22, Tryd.ntmps22
        go_wp2_with (first | ((with_reducible refine gate_dst (N := 2) rfl ?_); refine box_event ?hg (N := 2) ?hd (cs := #[.int .u64 a0_0, .int .u64 a0_1, .int .u64 a0_2, .string a0_3, .string a0_4]) (t := 26) ?hr ?_; (case hd => rfl); (case hg => rfl); (case hr => first | (go_simp; done) | (go_simp; rfl) | (go_simp; simp [u8w]; done)); intro gb225 hg w13 hbox hb; have n0_ := Aside0.mk (below_step (by repeat (first | (with_reducible first | exact HB.out | apply below_alloc | apply pw_below_drewN | apply below_drew1) | exact HB.out)) hb); have n1_ := Aside0.mk (hbox); have n2_ := Aside0.mk ((by rw [hg]; exact (below_size (by repeat (first | (with_reducible first | exact HB.out | apply below_alloc | apply pw_below_drewN | apply below_drew1) | exact HB.out))) : w.heap.size ≤ gb225)); have n3_ := Aside0.mk ((by rw [hg]; exact (below_size (by repeat (first | (with_reducible first | exact HB.out | apply below_alloc | apply pw_below_drewN | apply below_drew1) | exact HB.out))) : w.heap.size ≤ gb225)); clear HB; have HB := n0_; have BK225 := n1_; have GW225 := n2_; have GE225 := n3_; clear n0_ n1_ n2_ n3_; clear hb hbox hg; have hcz14_0 : w13.cell? ⟨gb225, 0, none⟩ = some (.int .u64 a0_0) := (blk_cell BK225.out 0).trans rfl; have hcz14_1 : w13.cell? ⟨gb225, 1, none⟩ = some (.int .u64 a0_1) := (blk_cell BK225.out 1).trans rfl; have hcz14_2 : w13.cell? ⟨gb225, 2, none⟩ = some (.int .u64 a0_2) := (blk_cell BK225.out 2).trans rfl; have hcz14_3 : w13.cell? ⟨gb225, 3, none⟩ = some (.string a0_3) := (blk_cell BK225.out 3).trans rfl; have hcz14_4 : w13.cell? ⟨gb225, 4, none⟩ = some (.string a0_4) := (blk_cell BK225.out 4).trans rfl; have hfz14_0 := blk_frozen BK225.out 0; have hfz14_1 := blk_frozen BK225.out 1; have hfz14_2 := blk_frozen BK225.out 2; have hfz14_3 := blk_frozen BK225.out 3; have hfz14_4 := blk_frozen BK225.out 4))
        go_ret
        exact ⟨by first | rfl | (simp [errW_none, errW_some] <;> rfl) | (simp [*, errW_none, errW_some] <;> rfl) | (simp [bneNil]; done), by repeat (first | (with_reducible first | exact HB.out | apply below_alloc | apply pw_below_drewN | apply below_drew1 | refine below_set ?_ GE225.out) | exact HB.out)⟩
      · rw [if_neg c12] at H
        have c12b0 : ((IntKind.u64.wrap (a0_1 + 1)) == 0) = false := beq_eq_false_iff_ne.mpr c12
        have c12b1 : ((IntKind.u64.wrap (a0_1 + 1)) != 0) = true := bne_iff_ne.mpr c12
        by_cases c15 : a1 < 3
        · rw [if_pos c15] at H
          have c15b0 : decide (a1 < 3) = true := decide_eq_true c15
          clear c15
          obtain rfl := Option.some.inj H
          go_enter Tryd.func22, Tryd.ntmps22
          go_wp2_with (first | ((with_reducible refine gate_dst (N := 2) rfl ?_); refine box_event ?hg (N := 2) ?hd (cs := #[.int .u64 a0_0, .int .u64 a0_1, .int .u64 a0_2, .string a0_3, .string a0_4]) (t := 26) ?hr ?_; (case hd => rfl); (case hg => rfl); (case hr => first | (go_simp; done) | (go_simp; rfl) | (go_simp; simp [u8w]; done)); intro gb225 hg w16 hbox hb; have n0_ := Aside0.mk (below_step (by repeat (first | (with_reducible first | exact HB.out | apply below_alloc | apply pw_below_drewN | apply below_drew1) | exact HB.out)) hb); have n1_ := Aside0.mk (hbox); have n2_ := Aside0.mk ((by rw [hg]; exact (below_size (by repeat (first | (with_reducible first | exact HB.out | apply below_alloc | apply pw_below_drewN | apply below_drew1) | exact HB.out))) : w.heap.size ≤ gb225)); have n3_ := Aside0.mk ((by rw [hg]; exact (below_size (by repeat (first | (with_reducible first | exact HB.out | apply below_alloc | apply pw_below_drewN | apply below_drew1) | exact HB.out))) : w.heap.size ≤ gb225)); clear HB; have HB := n0_; have BK225 := n1_; have GW225 := n2_; have GE225 := n3_; clear n0_ n1_ n2_ n3_; clear hb hbox hg; have hcz17_0 : w16.cell? ⟨gb225, 0, none⟩ = some (.int .u64 a0_0) := (blk_cell BK225.out 0).trans rfl; have hcz17_1 : w16.cell? ⟨gb225, 1, none⟩ = some (.int .u64 a0_1) := (blk_cell BK225.out 1).trans rfl; have hcz17_2 : w16.cell? ⟨gb225, 2, none⟩ = some (.int .u64 a0_2) := (blk_cell BK225.out 2).trans rfl; have hcz17_3 : w16.cell? ⟨gb225, 3, none⟩ = some (.string a0_3) := (blk_cell BK225.out 3).trans rfl; have hcz17_4 : w16.cell? ⟨gb225, 4, none⟩ = some (.string a0_4) := (blk_cell BK225.out 4).trans rfl; have hfz17_0 := blk_frozen BK225.out 0; have hfz17_1 := blk_frozen BK225.out 1; have hfz17_2 := blk_frozen BK225.out 2; have hfz17_3 := blk_frozen BK225.out 3; have hfz17_4 := blk_frozen BK225.out 4))
          go_ret
          exact ⟨by first | rfl | (simp [errW_none, errW_some] <;> rfl) | (simp [*, errW_none, errW_some] <;> rfl) | (simp [bneNil]; done), by repeat (first | (with_reducible first | exact HB.out | apply below_alloc | apply pw_below_drewN | apply below_drew1 | refine below_set ?_ GE225.out) | exact HB.out)⟩
        · rw [if_neg c15] at H
          have c15b0 : decide (a1 < 3) = false := decide_eq_false c15
          clear c15
          obtain rfl := Option.some.inj H
          go_enter Tryd.func22, Tryd.ntmps22
          go_wp2_with (first | ((with_reducible refine gate_dst (N := 2) rfl ?_); refine box_event ?hg (N := 2) ?hd (cs := #[.int .u64 a0_0, .int .u64 a0_1, .int .u64 a0_2, .string a0_3, .string a0_4]) (t := 26) ?hr ?_; (case hd => rfl); (case hg => rfl); (case hr => first | (go_simp; done) | (go_simp; rfl) | (go_simp; simp [u8w]; done)); intro gb225 hg w18 hbox hb; have n0_ := Aside0.mk (below_step (by repeat (first | (with_reducible first | exact HB.out | apply below_alloc | apply pw_below_drewN | apply below_drew1) | exact HB.out)) hb); have n1_ := Aside0.mk (hbox); have n2_ := Aside0.mk ((by rw [hg]; exact (below_size (by repeat (first | (with_reducible first | exact HB.out | apply below_alloc | apply pw_below_drewN | apply below_drew1) | exact HB.out))) : w.heap.size ≤ gb225)); have n3_ := Aside0.mk ((by rw [hg]; exact (below_size (by repeat (first | (with_reducible first | exact HB.out | apply below_alloc | apply pw_below_drewN | apply below_drew1) | exact HB.out))) : w.heap.size ≤ gb225)); clear HB; have HB := n0_; have BK225 := n1_; have GW225 := n2_; have GE225 := n3_; clear n0_ n1_ n2_ n3_; clear hb hbox hg; have hcz19_0 : w18.cell? ⟨gb225, 0, none⟩ = some (.int .u64 a0_0) := (blk_cell BK225.out 0).trans rfl; have hcz19_1 : w18.cell? ⟨gb225, 1, none⟩ = some (.int .u64 a0_1) := (blk_cell BK225.out 1).trans rfl; have hcz19_2 : w18.cell? ⟨gb225, 2, none⟩ = some (.int .u64 a0_2) := (blk_cell BK225.out 2).trans rfl; have hcz19_3 : w18.cell? ⟨gb225, 3, none⟩ = some (.string a0_3) := (blk_cell BK225.out 3).trans rfl; have hcz19_4 : w18.cell? ⟨gb225, 4, none⟩ = some (.string a0_4) := (blk_cell BK225.out 4).trans rfl; have hfz19_0 := blk_frozen BK225.out 0; have hfz19_1 := blk_frozen BK225.out 1; have hfz19_2 := blk_frozen BK225.out 2; have hfz19_3 := blk_frozen BK225.out 3; have hfz19_4 := blk_frozen BK225.out 4))
          go_ret
          exact ⟨by first | rfl | (simp [errW_none, errW_some] <;> rfl) | (simp [*, errW_none, errW_some] <;> rfl) | (simp [bneNil]; done), by repeat (first | (with_reducible first | exact HB.out | apply below_alloc | apply pw_below_drewN | apply below_drew1 | refine below_set ?_ GE225.out) | exact HB.out)⟩

def laws_scFirst.f (a0_0 : Int) (a0_1 : Int) (a0_2 : Int) (a0_3 : ByteArray) (a0_4 : ByteArray) (a1 : Int) : Option (Int × Int × Int × ByteArray × ByteArray) := if a1 < 3 then (if a1 < 2 then (some (a0_0, 0, 0, (⟨#[]⟩ : ByteArray), (⟨#[]⟩ : ByteArray))) else (some (a0_0, a0_1, 0, (⟨#[]⟩ : ByteArray), (⟨#[]⟩ : ByteArray)))) else (if a1 < 2 then (some (a0_0, 0, a0_2, (⟨#[]⟩ : ByteArray), (⟨#[]⟩ : ByteArray))) else (some (a0_0, a0_1, a0_2, (⟨#[]⟩ : ByteArray), (⟨#[]⟩ : ByteArray))))

set_option maxHeartbeats 80000000 in
set_option maxRecDepth 100000 in
theorem laws_scFirst.calls (a0_0 : Int) (a0_1 : Int) (a0_2 : Int) (a0_3 : ByteArray) (a0_4 : ByteArray) (a1 : Int) (r1 : Int) (r2 : Int) (r3 : Int) (r4 : ByteArray) (r5 : ByteArray) (w : World) (h : laws_scFirst.f a0_0 a0_1 a0_2 a0_3 a0_4 a1 = some (r1, r2, r3, r4, r5)) :
    Calls Tryd.prog 24 #[.agg #[.int .u64 a0_0, .int .u64 a0_1, .int .u64 a0_2, .string a0_3, .string a0_4], .int .i64 a1] w fun e w' => e = .returned (.agg #[.int .u64 r1, .int .u64 r2, .int .u64 r3, .string r4, .string r5]) ∧ Below w.heap.size w w' := by
  have hu26 := Tryd.underlying26
  have HB := Aside0.mk (Below.refl w.heap.size w)
  have H : (if a1 < 3 then (if a1 < 2 then (some (a0_0, 0, 0, (⟨#[]⟩ : ByteArray), (⟨#[]⟩ : ByteArray))) else (some (a0_0, a0_1, 0, (⟨#[]⟩ : ByteArray), (⟨#[]⟩ : ByteArray)))) else (if a1 < 2 then (some (a0_0, 0, a0_2, (⟨#[]⟩ : ByteArray), (⟨#[]⟩ : ByteArray))) else (some (a0_0, a0_1, a0_2, (⟨#[]⟩ : ByteArray), (⟨#[]⟩ : ByteArray))))) = some (r1, r2, r3, r4, r5) := h
  clear h
  by_cases c3 : a1 < 3
  · rw [if_pos c3] at H
    have c3b0 : decide (a1 < 3) = true := decide_eq_true c3
    clear c3
    by_cases c4 : a1 < 2
    · rw [if_pos c4] at H
      have c4b0 : decide (a1 < 2) = true := decide_eq_true c4
      clear c4
      simp only [Option.some.injEq, Prod.mk.injEq] at H
      obtain ⟨rfl, rfl, rfl, rfl, rfl⟩ := H
      go_enter Tryd.func24, Tryd.ntmps24
      go_wp2_with (first | ((with_reducible refine gate_dst (N := 2) rfl ?_); refine box_event ?hg (N := 2) ?hd (cs := #[.int .u64 a0_0, .int .u64 a0_1, .int .u64 a0_2, .string a0_3, .string a0_4]) (t := 26) ?hr ?_; (case hd => rfl); (case hg => rfl); (case hr => first | (go_simp; done) | (go_simp; rfl) | (go_simp; simp [u8w]; done)); intro gb235 hg w5 hbox hb; have n0_ := Aside0.mk (below_step (by repeat (first | (with_reducible first | exact HB.out | apply below_alloc | apply pw_below_drewN | apply below_drew1) | exact HB.out)) hb); have n1_ := Aside0.mk (hbox); have n2_ := Aside0.mk ((by rw [hg]; exact (below_size (by repeat (first | (with_reducible first | exact HB.out | apply below_alloc | apply pw_below_drewN | apply below_drew1) | exact HB.out))) : w.heap.size ≤ gb235)); have n3_ := Aside0.mk ((by rw [hg]; exact (below_size (by repeat (first | (with_reducible first | exact HB.out | apply below_alloc | apply pw_below_drewN | apply below_drew1) | exact HB.out))) : w.heap.size ≤ gb235)); clear HB; have HB := n0_; have BK235 := n1_; have GW235 := n2_; have GE235 := n3_; clear n0_ n1_ n2_ n3_; clear hb hbox hg) | ((with_reducible refine gate_dst (N := 4) rfl ?_); refine box_event ?hg (N := 4) ?hd (cs := #[.int .u64 0, .int .u64 0, .int .u64 0, .string (⟨#[]⟩ : ByteArray), .string (⟨#[]⟩ : ByteArray)]) (t := 26) ?hr ?_; (case hd => rfl); (case hg => rfl); (case hr => first | (go_simp; done) | (go_simp; rfl) | (go_simp; simp [u8w]; done)); intro gb236 hg w6 hbox hb; have n0_ := Aside0.mk (blk_below (g := gb235) (o := .cells #[.int .u64 a0_0, .int .u64 a0_1, .int .u64 a0_2, .string a0_3, .string a0_4] 26 (0, 0)) (by (with_reducible repeat (first | refine blk_drewN ?_ _ | refine blk_drew ?_ | refine blk_alloc ?_ _)); exact BK235.out) hb); have n1_ := Aside0.mk (below_step (by repeat (first | (with_reducible first | exact HB.out | apply below_alloc | apply pw_below_drewN | apply below_drew1 | refine below_set ?_ GE235.out) | exact HB.out)) hb); have n2_ := Aside0.mk (hbox); have n3_ := Aside0.mk ((by rw [hg]; exact (below_size (by repeat (first | (with_reducible first | exact HB.out | apply below_alloc | apply pw_below_drewN | apply below_drew1 | refine below_set ?_ GE235.out) | exact HB.out))) : w.heap.size ≤ gb236)); have n4_ := Aside0.mk ((by rw [hg]; exact (below_size (by repeat (first | (with_reducible first | exact HB.out | apply below_alloc | apply pw_below_drewN | apply below_drew1 | refine below_set ?_ GE235.out) | exact HB.out))) : w.heap.size ≤ gb236)); have n5_ := Aside0.mk ((by rw [hg]; exact Nat.ne_of_lt (blk_lt (g := gb235) (o := .cells #[.int .u64 a0_0, .int .u64 a0_1, .int .u64 a0_2, .string a0_3, .string a0_4] 26 (0, 0)) (by (with_reducible repeat (first | refine blk_drewN ?_ _ | refine blk_drew ?_ | refine blk_alloc ?_ _)); exact BK235.out)) : gb235 ≠ gb236)); have n6_ := Aside0.mk ((by rw [hg]; exact Nat.ne_of_gt (blk_lt (g := gb235) (o := .cells #[.int .u64 a0_0, .int .u64 a0_1, .int .u64 a0_2, .string a0_3, .string a0_4] 26 (0, 0)) (by (with_reducible repeat (first | refine blk_drewN ?_ _ | refine blk_drew ?_ | refine blk_alloc ?_ _)); exact BK235.out)) : gb236 ≠ gb235)); clear BK235; clear HB; have BK235 := n0_; have HB := n1_; have BK236 := n2_; have GW236 := n3_; have GE236 := n4_; have NB235_236 := n5_; have NB236_235 := n6_; clear n0_ n1_ n2_ n3_ n4_ n5_ n6_; clear hb hbox hg; have hnb7 := NB235_236.out; have hnc7 := NB236_235.out; have hcz8_0 : w6.cell? ⟨gb235, 0, none⟩ = some (.int .u64 a0_0) := (blk_cell BK235.out 0).trans rfl; have hcz8_1 : w6.cell? ⟨gb235, 1, none⟩ = some (.int .u64 a0_1) := (blk_cell BK235.out 1).trans rfl; have hcz8_2 : w6.cell? ⟨gb235, 2, none⟩ = some (.int .u64 a0_2) := (blk_cell BK235.out 2).trans rfl; have hcz8_3 : w6.cell? ⟨gb235, 3, none⟩ = some (.string a0_3) := (blk_cell BK235.out 3).trans rfl; have hcz8_4 : w6.cell? ⟨gb235, 4, none⟩ = some (.string a0_4) := (blk_cell BK235.out 4).trans rfl; have hfz8_0 := blk_frozen BK235.out 0; have hfz8_1 := blk_frozen BK235.out 1; have hfz8_2 := blk_frozen BK235.out 2; have hfz8_3 := blk_frozen BK235.out 3; have hfz8_4 := blk_frozen BK235.out 4; have hcz9_0 : w6.cell? ⟨gb236, 0, none⟩ = some (.int .u64 0) := (blk_cell BK236.out 0).trans rfl; have hcz9_1 : w6.cell? ⟨gb236, 1, none⟩ = some (.int .u64 0) := (blk_cell BK236.out 1).trans rfl; have hcz9_2 : w6.cell? ⟨gb236, 2, none⟩ = some (.int .u64 0) := (blk_cell BK236.out 2).trans rfl; have hcz9_3 : w6.cell? ⟨gb236, 3, none⟩ = some (.string (⟨#[]⟩ : ByteArray)) := (blk_cell BK236.out 3).trans rfl; have hcz9_4 : w6.cell? ⟨gb236, 4, none⟩ = some (.string (⟨#[]⟩ : ByteArray)) := (blk_cell BK236.out 4).trans rfl; have hfz9_0 := blk_frozen BK236.out 0; have hfz9_1 := blk_frozen BK236.out 1; have hfz9_2 := blk_frozen BK236.out 2; have hfz9_3 := blk_frozen BK236.out 3; have hfz9_4 := blk_frozen BK236.out 4))
      refine bodyPost_ret (results_cell_row rfl _ _ gb236 26 #[.int .u64 a0_0, .int .u64 0, .int .u64 0, .string (⟨#[]⟩ : ByteArray), .string (⟨#[]⟩ : ByteArray)] (0, 0) _ rfl (by (with_reducible repeat (first | refine blk_drewN ?_ _ | refine blk_drew ?_ | refine blk_alloc ?_ _)); refine blk_put (cs := #[.int .u64 a0_0, .int .u64 0, .int .u64 0, .string (⟨#[]⟩ : ByteArray), .string (⟨#[]⟩ : ByteArray)]) ?_ 4 _ rfl; (with_reducible repeat (first | refine blk_drewN ?_ _ | refine blk_drew ?_ | refine blk_alloc ?_ _)); refine blk_put (cs := #[.int .u64 a0_0, .int .u64 0, .int .u64 0, .string (⟨#[]⟩ : ByteArray), .string (⟨#[]⟩ : ByteArray)]) ?_ 3 _ rfl; (with_reducible repeat (first | refine blk_drewN ?_ _ | refine blk_drew ?_ | refine blk_alloc ?_ _)); refine blk_put (cs := #[.int .u64 a0_0, .int .u64 0, .int .u64 0, .string (⟨#[]⟩ : ByteArray), .string (⟨#[]⟩ : ByteArray)]) ?_ 2 _ rfl; (with_reducible repeat (first | refine blk_drewN ?_ _ | refine blk_drew ?_ | refine blk_alloc ?_ _)); refine blk_put (cs := #[.int .u64 a0_0, .int .u64 0, .int .u64 0, .string (⟨#[]⟩ : ByteArray), .string (⟨#[]⟩ : ByteArray)]) ?_ 1 _ rfl; (with_reducible repeat (first | refine blk_drewN ?_ _ | refine blk_drew ?_ | refine blk_alloc ?_ _)); refine blk_put (cs := #[.int .u64 0, .int .u64 0, .int .u64 0, .string (⟨#[]⟩ : ByteArray), .string (⟨#[]⟩ : ByteArray)]) ?_ 0 _ rfl; (with_reducible repeat (first | refine blk_drewN ?_ _ | refine blk_drew ?_ | refine blk_alloc ?_ _)); refine blk_far ?_ NB236_235.out _; (with_reducible repeat (first | refine blk_drewN ?_ _ | refine blk_drew ?_ | refine blk_alloc ?_ _)); refine blk_far ?_ NB236_235.out _; (with_reducible repeat (first | refine blk_drewN ?_ _ | refine blk_drew ?_ | refine blk_alloc ?_ _)); refine blk_far ?_ NB236_235.out _; (with_reducible repeat (first | refine blk_drewN ?_ _ | refine blk_drew ?_ | refine blk_alloc ?_ _)); refine blk_far ?_ NB236_235.out _; (with_reducible repeat (first | refine blk_drewN ?_ _ | refine blk_drew ?_ | refine blk_alloc ?_ _)); exact BK236.out) Tryd.underlying26 rfl (by kernel_rfl)) rfl ?_
      exact ⟨by first | rfl | (simp [errW_none, errW_some] <;> rfl) | (simp [*, errW_none, errW_some] <;> rfl) | (simp [bneNil]; done), by repeat (first | (with_reducible first | exact HB.out | apply below_alloc | apply pw_below_drewN | apply below_drew1 | refine below_set ?_ GE235.out | refine below_set ?_ GE236.out) | exact HB.out)⟩
    · rw [if_neg c4] at H
      have c4b0 : decide (a1 < 2) = false := decide_eq_false c4
      clear c4
      simp only [Option.some.injEq, Prod.mk.injEq] at H
      obtain ⟨rfl, rfl, rfl, rfl, rfl⟩ := H
      go_enter Tryd.func24, Tryd.ntmps24
      go_wp2_with (first | ((with_reducible refine gate_dst (N := 2) rfl ?_); refine box_event ?hg (N := 2) ?hd (cs := #[.int .u64 a0_0, .int .u64 a0_1, .int .u64 a0_2, .string a0_3, .string a0_4]) (t := 26) ?hr ?_; (case hd => rfl); (case hg => rfl); (case hr => first | (go_simp; done) | (go_simp; rfl) | (go_simp; simp [u8w]; done)); intro gb235 hg w10 hbox hb; have n0_ := Aside0.mk (below_step (by repeat (first | (with_reducible first | exact HB.out | apply below_alloc | apply pw_below_drewN | apply below_drew1) | exact HB.out)) hb); have n1_ := Aside0.mk (hbox); have n2_ := Aside0.mk ((by rw [hg]; exact (below_size (by repeat (first | (with_reducible first | exact HB.out | apply below_alloc | apply pw_below_drewN | apply below_drew1) | exact HB.out))) : w.heap.size ≤ gb235)); have n3_ := Aside0.mk ((by rw [hg]; exact (below_size (by repeat (first | (with_reducible first | exact HB.out | apply below_alloc | apply pw_below_drewN | apply below_drew1) | exact HB.out))) : w.heap.size ≤ gb235)); clear HB; have HB := n0_; have BK235 := n1_; have GW235 := n2_; have GE235 := n3_; clear n0_ n1_ n2_ n3_; clear hb hbox hg) | ((with_reducible refine gate_dst (N := 4) rfl ?_); refine box_event ?hg (N := 4) ?hd (cs := #[.int .u64 0, .int .u64 0, .int .u64 0, .string (⟨#[]⟩ : ByteArray), .string (⟨#[]⟩ : ByteArray)]) (t := 26) ?hr ?_; (case hd => rfl); (case hg => rfl); (case hr => first | (go_simp; done) | (go_simp; rfl) | (go_simp; simp [u8w]; done)); intro gb236 hg w11 hbox hb; have n0_ := Aside0.mk (blk_below (g := gb235) (o := .cells #[.int .u64 a0_0, .int .u64 a0_1, .int .u64 a0_2, .string a0_3, .string a0_4] 26 (0, 0)) (by (with_reducible repeat (first | refine blk_drewN ?_ _ | refine blk_drew ?_ | refine blk_alloc ?_ _)); exact BK235.out) hb); have n1_ := Aside0.mk (below_step (by repeat (first | (with_reducible first | exact HB.out | apply below_alloc | apply pw_below_drewN | apply below_drew1 | refine below_set ?_ GE235.out) | exact HB.out)) hb); have n2_ := Aside0.mk (hbox); have n3_ := Aside0.mk ((by rw [hg]; exact (below_size (by repeat (first | (with_reducible first | exact HB.out | apply below_alloc | apply pw_below_drewN | apply below_drew1 | refine below_set ?_ GE235.out) | exact HB.out))) : w.heap.size ≤ gb236)); have n4_ := Aside0.mk ((by rw [hg]; exact (below_size (by repeat (first | (with_reducible first | exact HB.out | apply below_alloc | apply pw_below_drewN | apply below_drew1 | refine below_set ?_ GE235.out) | exact HB.out))) : w.heap.size ≤ gb236)); have n5_ := Aside0.mk ((by rw [hg]; exact Nat.ne_of_lt (blk_lt (g := gb235) (o := .cells #[.int .u64 a0_0, .int .u64 a0_1, .int .u64 a0_2, .string a0_3, .string a0_4] 26 (0, 0)) (by (with_reducible repeat (first | refine blk_drewN ?_ _ | refine blk_drew ?_ | refine blk_alloc ?_ _)); exact BK235.out)) : gb235 ≠ gb236)); have n6_ := Aside0.mk ((by rw [hg]; exact Nat.ne_of_gt (blk_lt (g := gb235) (o := .cells #[.int .u64 a0_0, .int .u64 a0_1, .int .u64 a0_2, .string a0_3, .string a0_4] 26 (0, 0)) (by (with_reducible repeat (first | refine blk_drewN ?_ _ | refine blk_drew ?_ | refine blk_alloc ?_ _)); exact BK235.out)) : gb236 ≠ gb235)); clear BK235; clear HB; have BK235 := n0_; have HB := n1_; have BK236 := n2_; have GW236 := n3_; have GE236 := n4_; have NB235_236 := n5_; have NB236_235 := n6_; clear n0_ n1_ n2_ n3_ n4_ n5_ n6_; clear hb hbox hg; have hnb12 := NB235_236.out; have hnc12 := NB236_235.out; have hcz13_0 : w11.cell? ⟨gb235, 0, none⟩ = some (.int .u64 a0_0) := (blk_cell BK235.out 0).trans rfl; have hcz13_1 : w11.cell? ⟨gb235, 1, none⟩ = some (.int .u64 a0_1) := (blk_cell BK235.out 1).trans rfl; have hcz13_2 : w11.cell? ⟨gb235, 2, none⟩ = some (.int .u64 a0_2) := (blk_cell BK235.out 2).trans rfl; have hcz13_3 : w11.cell? ⟨gb235, 3, none⟩ = some (.string a0_3) := (blk_cell BK235.out 3).trans rfl; have hcz13_4 : w11.cell? ⟨gb235, 4, none⟩ = some (.string a0_4) := (blk_cell BK235.out 4).trans rfl; have hfz13_0 := blk_frozen BK235.out 0; have hfz13_1 := blk_frozen BK235.out 1; have hfz13_2 := blk_frozen BK235.out 2; have hfz13_3 := blk_frozen BK235.out 3; have hfz13_4 := blk_frozen BK235.out 4; have hcz14_0 : w11.cell? ⟨gb236, 0, none⟩ = some (.int .u64 0) := (blk_cell BK236.out 0).trans rfl; have hcz14_1 : w11.cell? ⟨gb236, 1, none⟩ = some (.int .u64 0) := (blk_cell BK236.out 1).trans rfl; have hcz14_2 : w11.cell? ⟨gb236, 2, none⟩ = some (.int .u64 0) := (blk_cell BK236.out 2).trans rfl; have hcz14_3 : w11.cell? ⟨gb236, 3, none⟩ = some (.string (⟨#[]⟩ : ByteArray)) := (blk_cell BK236.out 3).trans rfl; have hcz14_4 : w11.cell? ⟨gb236, 4, none⟩ = some (.string (⟨#[]⟩ : ByteArray)) := (blk_cell BK236.out 4).trans rfl; have hfz14_0 := blk_frozen BK236.out 0; have hfz14_1 := blk_frozen BK236.out 1; have hfz14_2 := blk_frozen BK236.out 2; have hfz14_3 := blk_frozen BK236.out 3; have hfz14_4 := blk_frozen BK236.out 4))
      refine bodyPost_ret (results_cell_row rfl _ _ gb236 26 #[.int .u64 a0_0, .int .u64 a0_1, .int .u64 0, .string (⟨#[]⟩ : ByteArray), .string (⟨#[]⟩ : ByteArray)] (0, 0) _ rfl (by (with_reducible repeat (first | refine blk_drewN ?_ _ | refine blk_drew ?_ | refine blk_alloc ?_ _)); refine blk_put (cs := #[.int .u64 a0_0, .int .u64 a0_1, .int .u64 0, .string (⟨#[]⟩ : ByteArray), .string (⟨#[]⟩ : ByteArray)]) ?_ 4 _ rfl; (with_reducible repeat (first | refine blk_drewN ?_ _ | refine blk_drew ?_ | refine blk_alloc ?_ _)); refine blk_put (cs := #[.int .u64 a0_0, .int .u64 a0_1, .int .u64 0, .string (⟨#[]⟩ : ByteArray), .string (⟨#[]⟩ : ByteArray)]) ?_ 3 _ rfl; (with_reducible repeat (first | refine blk_drewN ?_ _ | refine blk_drew ?_ | refine blk_alloc ?_ _)); refine blk_put (cs := #[.int .u64 a0_0, .int .u64 a0_1, .int .u64 0, .string (⟨#[]⟩ : ByteArray), .string (⟨#[]⟩ : ByteArray)]) ?_ 2 _ rfl; (with_reducible repeat (first | refine blk_drewN ?_ _ | refine blk_drew ?_ | refine blk_alloc ?_ _)); refine blk_put (cs := #[.int .u64 a0_0, .int .u64 0, .int .u64 0, .string (⟨#[]⟩ : ByteArray), .string (⟨#[]⟩ : ByteArray)]) ?_ 1 _ rfl; (with_reducible repeat (first | refine blk_drewN ?_ _ | refine blk_drew ?_ | refine blk_alloc ?_ _)); refine blk_put (cs := #[.int .u64 0, .int .u64 0, .int .u64 0, .string (⟨#[]⟩ : ByteArray), .string (⟨#[]⟩ : ByteArray)]) ?_ 0 _ rfl; (with_reducible repeat (first | refine blk_drewN ?_ _ | refine blk_drew ?_ | refine blk_alloc ?_ _)); refine blk_far ?_ NB236_235.out _; (with_reducible repeat (first | refine blk_drewN ?_ _ | refine blk_drew ?_ | refine blk_alloc ?_ _)); refine blk_far ?_ NB236_235.out _; (with_reducible repeat (first | refine blk_drewN ?_ _ | refine blk_drew ?_ | refine blk_alloc ?_ _)); refine blk_far ?_ NB236_235.out _; (with_reducible repeat (first | refine blk_drewN ?_ _ | refine blk_drew ?_ | refine blk_alloc ?_ _)); exact BK236.out) Tryd.underlying26 rfl (by kernel_rfl)) rfl ?_
      exact ⟨by first | rfl | (simp [errW_none, errW_some] <;> rfl) | (simp [*, errW_none, errW_some] <;> rfl) | (simp [bneNil]; done), by repeat (first | (with_reducible first | exact HB.out | apply below_alloc | apply pw_below_drewN | apply below_drew1 | refine below_set ?_ GE235.out | refine below_set ?_ GE236.out) | exact HB.out)⟩
  · rw [if_neg c3] at H
    have c3b0 : decide (a1 < 3) = false := decide_eq_false c3
    clear c3
    by_cases c15 : a1 < 2
    · rw [if_pos c15] at H
      have c15b0 : decide (a1 < 2) = true := decide_eq_true c15
      clear c15
      simp only [Option.some.injEq, Prod.mk.injEq] at H
      obtain ⟨rfl, rfl, rfl, rfl, rfl⟩ := H
      go_enter Tryd.func24, Tryd.ntmps24
      go_wp2_with (first | ((with_reducible refine gate_dst (N := 2) rfl ?_); refine box_event ?hg (N := 2) ?hd (cs := #[.int .u64 a0_0, .int .u64 a0_1, .int .u64 a0_2, .string a0_3, .string a0_4]) (t := 26) ?hr ?_; (case hd => rfl); (case hg => rfl); (case hr => first | (go_simp; done) | (go_simp; rfl) | (go_simp; simp [u8w]; done)); intro gb235 hg w16 hbox hb; have n0_ := Aside0.mk (below_step (by repeat (first | (with_reducible first | exact HB.out | apply below_alloc | apply pw_below_drewN | apply below_drew1) | exact HB.out)) hb); have n1_ := Aside0.mk (hbox); have n2_ := Aside0.mk ((by rw [hg]; exact (below_size (by repeat (first | (with_reducible first | exact HB.out | apply below_alloc | apply pw_below_drewN | apply below_drew1) | exact HB.out))) : w.heap.size ≤ gb235)); have n3_ := Aside0.mk ((by rw [hg]; exact (below_size (by repeat (first | (with_reducible first | exact HB.out | apply below_alloc | apply pw_below_drewN | apply below_drew1) | exact HB.out))) : w.heap.size ≤ gb235)); clear HB; have HB := n0_; have BK235 := n1_; have GW235 := n2_; have GE235 := n3_; clear n0_ n1_ n2_ n3_; clear hb hbox hg) | ((with_reducible refine gate_dst (N := 4) rfl ?_); refine box_event ?hg (N := 4) ?hd (cs := #[.int .u64 0, .int .u64 0, .int .u64 0, .string (⟨#[]⟩ : ByteArray), .string (⟨#[]⟩ : ByteArray)]) (t := 26) ?hr ?_; (case hd => rfl); (case hg => rfl); (case hr => first | (go_simp; done) | (go_simp; rfl) | (go_simp; simp [u8w]; done)); intro gb236 hg w17 hbox hb; have n0_ := Aside0.mk (blk_below (g := gb235) (o := .cells #[.int .u64 a0_0, .int .u64 a0_1, .int .u64 a0_2, .string a0_3, .string a0_4] 26 (0, 0)) (by (with_reducible repeat (first | refine blk_drewN ?_ _ | refine blk_drew ?_ | refine blk_alloc ?_ _)); exact BK235.out) hb); have n1_ := Aside0.mk (below_step (by repeat (first | (with_reducible first | exact HB.out | apply below_alloc | apply pw_below_drewN | apply below_drew1 | refine below_set ?_ GE235.out) | exact HB.out)) hb); have n2_ := Aside0.mk (hbox); have n3_ := Aside0.mk ((by rw [hg]; exact (below_size (by repeat (first | (with_reducible first | exact HB.out | apply below_alloc | apply pw_below_drewN | apply below_drew1 | refine below_set ?_ GE235.out) | exact HB.out))) : w.heap.size ≤ gb236)); have n4_ := Aside0.mk ((by rw [hg]; exact (below_size (by repeat (first | (with_reducible first | exact HB.out | apply below_alloc | apply pw_below_drewN | apply below_drew1 | refine below_set ?_ GE235.out) | exact HB.out))) : w.heap.size ≤ gb236)); have n5_ := Aside0.mk ((by rw [hg]; exact Nat.ne_of_lt (blk_lt (g := gb235) (o := .cells #[.int .u64 a0_0, .int .u64 a0_1, .int .u64 a0_2, .string a0_3, .string a0_4] 26 (0, 0)) (by (with_reducible repeat (first | refine blk_drewN ?_ _ | refine blk_drew ?_ | refine blk_alloc ?_ _)); exact BK235.out)) : gb235 ≠ gb236)); have n6_ := Aside0.mk ((by rw [hg]; exact Nat.ne_of_gt (blk_lt (g := gb235) (o := .cells #[.int .u64 a0_0, .int .u64 a0_1, .int .u64 a0_2, .string a0_3, .string a0_4] 26 (0, 0)) (by (with_reducible repeat (first | refine blk_drewN ?_ _ | refine blk_drew ?_ | refine blk_alloc ?_ _)); exact BK235.out)) : gb236 ≠ gb235)); clear BK235; clear HB; have BK235 := n0_; have HB := n1_; have BK236 := n2_; have GW236 := n3_; have GE236 := n4_; have NB235_236 := n5_; have NB236_235 := n6_; clear n0_ n1_ n2_ n3_ n4_ n5_ n6_; clear hb hbox hg; have hnb18 := NB235_236.out; have hnc18 := NB236_235.out; have hcz19_0 : w17.cell? ⟨gb235, 0, none⟩ = some (.int .u64 a0_0) := (blk_cell BK235.out 0).trans rfl; have hcz19_1 : w17.cell? ⟨gb235, 1, none⟩ = some (.int .u64 a0_1) := (blk_cell BK235.out 1).trans rfl; have hcz19_2 : w17.cell? ⟨gb235, 2, none⟩ = some (.int .u64 a0_2) := (blk_cell BK235.out 2).trans rfl; have hcz19_3 : w17.cell? ⟨gb235, 3, none⟩ = some (.string a0_3) := (blk_cell BK235.out 3).trans rfl; have hcz19_4 : w17.cell? ⟨gb235, 4, none⟩ = some (.string a0_4) := (blk_cell BK235.out 4).trans rfl; have hfz19_0 := blk_frozen BK235.out 0; have hfz19_1 := blk_frozen BK235.out 1; have hfz19_2 := blk_frozen BK235.out 2; have hfz19_3 := blk_frozen BK235.out 3; have hfz19_4 := blk_frozen BK235.out 4; have hcz20_0 : w17.cell? ⟨gb236, 0, none⟩ = some (.int .u64 0) := (blk_cell BK236.out 0).trans rfl; have hcz20_1 : w17.cell? ⟨gb236, 1, none⟩ = some (.int .u64 0) := (blk_cell BK236.out 1).trans rfl; have hcz20_2 : w17.cell? ⟨gb236, 2, none⟩ = some (.int .u64 0) := (blk_cell BK236.out 2).trans rfl; have hcz20_3 : w17.cell? ⟨gb236, 3, none⟩ = some (.string (⟨#[]⟩ : ByteArray)) := (blk_cell BK236.out 3).trans rfl; have hcz20_4 : w17.cell? ⟨gb236, 4, none⟩ = some (.string (⟨#[]⟩ : ByteArray)) := (blk_cell BK236.out 4).trans rfl; have hfz20_0 := blk_frozen BK236.out 0; have hfz20_1 := blk_frozen BK236.out 1; have hfz20_2 := blk_frozen BK236.out 2; have hfz20_3 := blk_frozen BK236.out 3; have hfz20_4 := blk_frozen BK236.out 4))
      refine bodyPost_ret (results_cell_row rfl _ _ gb236 26 #[.int .u64 a0_0, .int .u64 0, .int .u64 a0_2, .string (⟨#[]⟩ : ByteArray), .string (⟨#[]⟩ : ByteArray)] (0, 0) _ rfl (by (with_reducible repeat (first | refine blk_drewN ?_ _ | refine blk_drew ?_ | refine blk_alloc ?_ _)); refine blk_put (cs := #[.int .u64 a0_0, .int .u64 0, .int .u64 a0_2, .string (⟨#[]⟩ : ByteArray), .string (⟨#[]⟩ : ByteArray)]) ?_ 4 _ rfl; (with_reducible repeat (first | refine blk_drewN ?_ _ | refine blk_drew ?_ | refine blk_alloc ?_ _)); refine blk_put (cs := #[.int .u64 a0_0, .int .u64 0, .int .u64 a0_2, .string (⟨#[]⟩ : ByteArray), .string (⟨#[]⟩ : ByteArray)]) ?_ 3 _ rfl; (with_reducible repeat (first | refine blk_drewN ?_ _ | refine blk_drew ?_ | refine blk_alloc ?_ _)); refine blk_put (cs := #[.int .u64 a0_0, .int .u64 0, .int .u64 0, .string (⟨#[]⟩ : ByteArray), .string (⟨#[]⟩ : ByteArray)]) ?_ 2 _ rfl; (with_reducible repeat (first | refine blk_drewN ?_ _ | refine blk_drew ?_ | refine blk_alloc ?_ _)); refine blk_put (cs := #[.int .u64 a0_0, .int .u64 0, .int .u64 0, .string (⟨#[]⟩ : ByteArray), .string (⟨#[]⟩ : ByteArray)]) ?_ 1 _ rfl; (with_reducible repeat (first | refine blk_drewN ?_ _ | refine blk_drew ?_ | refine blk_alloc ?_ _)); refine blk_put (cs := #[.int .u64 0, .int .u64 0, .int .u64 0, .string (⟨#[]⟩ : ByteArray), .string (⟨#[]⟩ : ByteArray)]) ?_ 0 _ rfl; (with_reducible repeat (first | refine blk_drewN ?_ _ | refine blk_drew ?_ | refine blk_alloc ?_ _)); refine blk_far ?_ NB236_235.out _; (with_reducible repeat (first | refine blk_drewN ?_ _ | refine blk_drew ?_ | refine blk_alloc ?_ _)); refine blk_far ?_ NB236_235.out _; (with_reducible repeat (first | refine blk_drewN ?_ _ | refine blk_drew ?_ | refine blk_alloc ?_ _)); refine blk_far ?_ NB236_235.out _; (with_reducible repeat (first | refine blk_drewN ?_ _ | refine blk_drew ?_ | refine blk_alloc ?_ _)); exact BK236.out) Tryd.underlying26 rfl (by kernel_rfl)) rfl ?_
      exact ⟨by first | rfl | (simp [errW_none, errW_some] <;> rfl) | (simp [*, errW_none, errW_some] <;> rfl) | (simp [bneNil]; done), by repeat (first | (with_reducible first | exact HB.out | apply below_alloc | apply pw_below_drewN | apply below_drew1 | refine below_set ?_ GE235.out | refine below_set ?_ GE236.out) | exact HB.out)⟩
    · rw [if_neg c15] at H
      have c15b0 : decide (a1 < 2) = false := decide_eq_false c15
      clear c15
      simp only [Option.some.injEq, Prod.mk.injEq] at H
      obtain ⟨rfl, rfl, rfl, rfl, rfl⟩ := H
      go_enter Tryd.func24, Tryd.ntmps24
      go_wp2_with (first | ((with_reducible refine gate_dst (N := 2) rfl ?_); refine box_event ?hg (N := 2) ?hd (cs := #[.int .u64 a0_0, .int .u64 a0_1, .int .u64 a0_2, .string a0_3, .string a0_4]) (t := 26) ?hr ?_; (case hd => rfl); (case hg => rfl); (case hr => first | (go_simp; done) | (go_simp; rfl) | (go_simp; simp [u8w]; done)); intro gb235 hg w21 hbox hb; have n0_ := Aside0.mk (below_step (by repeat (first | (with_reducible first | exact HB.out | apply below_alloc | apply pw_below_drewN | apply below_drew1) | exact HB.out)) hb); have n1_ := Aside0.mk (hbox); have n2_ := Aside0.mk ((by rw [hg]; exact (below_size (by repeat (first | (with_reducible first | exact HB.out | apply below_alloc | apply pw_below_drewN | apply below_drew1) | exact HB.out))) : w.heap.size ≤ gb235)); have n3_ := Aside0.mk ((by rw [hg]; exact (below_size (by repeat (first | (with_reducible first | exact HB.out | apply below_alloc | apply pw_below_drewN | apply below_drew1) | exact HB.out))) : w.heap.size ≤ gb235)); clear HB; have HB := n0_; have BK235 := n1_; have GW235 := n2_; have GE235 := n3_; clear n0_ n1_ n2_ n3_; clear hb hbox hg) | ((with_reducible refine gate_dst (N := 4) rfl ?_); refine box_event ?hg (N := 4) ?hd (cs := #[.int .u64 0, .int .u64 0, .int .u64 0, .string (⟨#[]⟩ : ByteArray), .string (⟨#[]⟩ : ByteArray)]) (t := 26) ?hr ?_; (case hd => rfl); (case hg => rfl); (case hr => first | (go_simp; done) | (go_simp; rfl) | (go_simp; simp [u8w]; done)); intro gb236 hg w22 hbox hb; have n0_ := Aside0.mk (blk_below (g := gb235) (o := .cells #[.int .u64 a0_0, .int .u64 a0_1, .int .u64 a0_2, .string a0_3, .string a0_4] 26 (0, 0)) (by (with_reducible repeat (first | refine blk_drewN ?_ _ | refine blk_drew ?_ | refine blk_alloc ?_ _)); exact BK235.out) hb); have n1_ := Aside0.mk (below_step (by repeat (first | (with_reducible first | exact HB.out | apply below_alloc | apply pw_below_drewN | apply below_drew1 | refine below_set ?_ GE235.out) | exact HB.out)) hb); have n2_ := Aside0.mk (hbox); have n3_ := Aside0.mk ((by rw [hg]; exact (below_size (by repeat (first | (with_reducible first | exact HB.out | apply below_alloc | apply pw_below_drewN | apply below_drew1 | refine below_set ?_ GE235.out) | exact HB.out))) : w.heap.size ≤ gb236)); have n4_ := Aside0.mk ((by rw [hg]; exact (below_size (by repeat (first | (with_reducible first | exact HB.out | apply below_alloc | apply pw_below_drewN | apply below_drew1 | refine below_set ?_ GE235.out) | exact HB.out))) : w.heap.size ≤ gb236)); have n5_ := Aside0.mk ((by rw [hg]; exact Nat.ne_of_lt (blk_lt (g := gb235) (o := .cells #[.int .u64 a0_0, .int .u64 a0_1, .int .u64 a0_2, .string a0_3, .string a0_4] 26 (0, 0)) (by (with_reducible repeat (first | refine blk_drewN ?_ _ | refine blk_drew ?_ | refine blk_alloc ?_ _)); exact BK235.out)) : gb235 ≠ gb236)); have n6_ := Aside0.mk ((by rw [hg]; exact Nat.ne_of_gt (blk_lt (g := gb235) (o := .cells #[.int .u64 a0_0, .int .u64 a0_1, .int .u64 a0_2, .string a0_3, .string a0_4] 26 (0, 0)) (by (with_reducible repeat (first | refine blk_drewN ?_ _ | refine blk_drew ?_ | refine blk_alloc ?_ _)); exact BK235.out)) : gb236 ≠ gb235)); clear BK235; clear HB; have BK235 := n0_; have HB := n1_; have BK236 := n2_; have GW236 := n3_; have GE236 := n4_; have NB235_236 := n5_; have NB236_235 := n6_; clear n0_ n1_ n2_ n3_ n4_ n5_ n6_; clear hb hbox hg; have hnb23 := NB235_236.out; have hnc23 := NB236_235.out; have hcz24_0 : w22.cell? ⟨gb235, 0, none⟩ = some (.int .u64 a0_0) := (blk_cell BK235.out 0).trans rfl; have hcz24_1 : w22.cell? ⟨gb235, 1, none⟩ = some (.int .u64 a0_1) := (blk_cell BK235.out 1).trans rfl; have hcz24_2 : w22.cell? ⟨gb235, 2, none⟩ = some (.int .u64 a0_2) := (blk_cell BK235.out 2).trans rfl; have hcz24_3 : w22.cell? ⟨gb235, 3, none⟩ = some (.string a0_3) := (blk_cell BK235.out 3).trans rfl; have hcz24_4 : w22.cell? ⟨gb235, 4, none⟩ = some (.string a0_4) := (blk_cell BK235.out 4).trans rfl; have hfz24_0 := blk_frozen BK235.out 0; have hfz24_1 := blk_frozen BK235.out 1; have hfz24_2 := blk_frozen BK235.out 2; have hfz24_3 := blk_frozen BK235.out 3; have hfz24_4 := blk_frozen BK235.out 4; have hcz25_0 : w22.cell? ⟨gb236, 0, none⟩ = some (.int .u64 0) := (blk_cell BK236.out 0).trans rfl; have hcz25_1 : w22.cell? ⟨gb236, 1, none⟩ = some (.int .u64 0) := (blk_cell BK236.out 1).trans rfl; have hcz25_2 : w22.cell? ⟨gb236, 2, none⟩ = some (.int .u64 0) := (blk_cell BK236.out 2).trans rfl; have hcz25_3 : w22.cell? ⟨gb236, 3, none⟩ = some (.string (⟨#[]⟩ : ByteArray)) := (blk_cell BK236.out 3).trans rfl; have hcz25_4 : w22.cell? ⟨gb236, 4, none⟩ = some (.string (⟨#[]⟩ : ByteArray)) := (blk_cell BK236.out 4).trans rfl; have hfz25_0 := blk_frozen BK236.out 0; have hfz25_1 := blk_frozen BK236.out 1; have hfz25_2 := blk_frozen BK236.out 2; have hfz25_3 := blk_frozen BK236.out 3; have hfz25_4 := blk_frozen BK236.out 4))
      refine bodyPost_ret (results_cell_row rfl _ _ gb236 26 #[.int .u64 a0_0, .int .u64 a0_1, .int .u64 a0_2, .string (⟨#[]⟩ : ByteArray), .string (⟨#[]⟩ : ByteArray)] (0, 0) _ rfl (by (with_reducible repeat (first | refine blk_drewN ?_ _ | refine blk_drew ?_ | refine blk_alloc ?_ _)); refine blk_put (cs := #[.int .u64 a0_0, .int .u64 a0_1, .int .u64 a0_2, .string (⟨#[]⟩ : ByteArray), .string (⟨#[]⟩ : ByteArray)]) ?_ 4 _ rfl; (with_reducible repeat (first | refine blk_drewN ?_ _ | refine blk_drew ?_ | refine blk_alloc ?_ _)); refine blk_put (cs := #[.int .u64 a0_0, .int .u64 a0_1, .int .u64 a0_2, .string (⟨#[]⟩ : ByteArray), .string (⟨#[]⟩ : ByteArray)]) ?_ 3 _ rfl; (with_reducible repeat (first | refine blk_drewN ?_ _ | refine blk_drew ?_ | refine blk_alloc ?_ _)); refine blk_put (cs := #[.int .u64 a0_0, .int .u64 a0_1, .int .u64 0, .string (⟨#[]⟩ : ByteArray), .string (⟨#[]⟩ : ByteArray)]) ?_ 2 _ rfl; (with_reducible repeat (first | refine blk_drewN ?_ _ | refine blk_drew ?_ | refine blk_alloc ?_ _)); refine blk_put (cs := #[.int .u64 a0_0, .int .u64 0, .int .u64 0, .string (⟨#[]⟩ : ByteArray), .string (⟨#[]⟩ : ByteArray)]) ?_ 1 _ rfl; (with_reducible repeat (first | refine blk_drewN ?_ _ | refine blk_drew ?_ | refine blk_alloc ?_ _)); refine blk_put (cs := #[.int .u64 0, .int .u64 0, .int .u64 0, .string (⟨#[]⟩ : ByteArray), .string (⟨#[]⟩ : ByteArray)]) ?_ 0 _ rfl; (with_reducible repeat (first | refine blk_drewN ?_ _ | refine blk_drew ?_ | refine blk_alloc ?_ _)); refine blk_far ?_ NB236_235.out _; (with_reducible repeat (first | refine blk_drewN ?_ _ | refine blk_drew ?_ | refine blk_alloc ?_ _)); refine blk_far ?_ NB236_235.out _; (with_reducible repeat (first | refine blk_drewN ?_ _ | refine blk_drew ?_ | refine blk_alloc ?_ _)); exact BK236.out) Tryd.underlying26 rfl (by kernel_rfl)) rfl ?_
      exact ⟨by first | rfl | (simp [errW_none, errW_some] <;> rfl) | (simp [*, errW_none, errW_some] <;> rfl) | (simp [bneNil]; done), by repeat (first | (with_reducible first | exact HB.out | apply below_alloc | apply pw_below_drewN | apply below_drew1 | refine below_set ?_ GE235.out | refine below_set ?_ GE236.out) | exact HB.out)⟩

def laws_snAs.f (a0_0 : Int) (a0_1 : Int) (a0_2 : Int) (a0_3 : Int) (a0_4 : Int) (a0_5 : ByteArray) (a1 : Int) : Option (Int × Int × Int × Int × Int × ByteArray) := some (a1, a0_1, a0_2, a0_3, a0_4, a0_5)

set_option maxHeartbeats 80000000 in
set_option maxRecDepth 100000 in
theorem laws_snAs.calls (a0_0 : Int) (a0_1 : Int) (a0_2 : Int) (a0_3 : Int) (a0_4 : Int) (a0_5 : ByteArray) (a1 : Int) (r1 : Int) (r2 : Int) (r3 : Int) (r4 : Int) (r5 : Int) (r6 : ByteArray) (w : World) (h : laws_snAs.f a0_0 a0_1 a0_2 a0_3 a0_4 a0_5 a1 = some (r1, r2, r3, r4, r5, r6)) :
    Calls Tryd.prog 63 #[.agg #[.int .i64 a0_0, .int .i64 a0_1, .int .u64 a0_2, .int .u64 a0_3, .int .u64 a0_4, .string a0_5], .int .i64 a1] w fun e w' => e = .returned (.agg #[.int .i64 r1, .int .i64 r2, .int .u64 r3, .int .u64 r4, .int .u64 r5, .string r6]) ∧ Below w.heap.size w w' := by
  have hu24 := Tryd.underlying24
  have HB := Aside0.mk (Below.refl w.heap.size w)
  have H : (some (a1, a0_1, a0_2, a0_3, a0_4, a0_5)) = some (r1, r2, r3, r4, r5, r6) := h
  clear h
  simp only [Option.some.injEq, Prod.mk.injEq] at H
  obtain ⟨rfl, rfl, rfl, rfl, rfl, rfl⟩ := H
  go_enter Tryd.func63, Tryd.ntmps63
  go_wp2_with (first | ((with_reducible refine gate_dst (N := 2) rfl ?_); refine box_event ?hg (N := 2) ?hd (cs := #[.int .i64 a0_0, .int .i64 a0_1, .int .u64 a0_2, .int .u64 a0_3, .int .u64 a0_4, .string a0_5]) (t := 24) ?hr ?_; (case hd => rfl); (case hg => rfl); (case hr => first | (go_simp; done) | (go_simp; rfl) | (go_simp; simp [u8w]; done)); intro gb312 hg w3 hbox hb; have n0_ := Aside0.mk (below_step (by repeat (first | (with_reducible first | exact HB.out | apply below_alloc | apply pw_below_drewN | apply below_drew1) | exact HB.out)) hb); have n1_ := Aside0.mk (hbox); have n2_ := Aside0.mk ((by rw [hg]; exact (below_size (by repeat (first | (with_reducible first | exact HB.out | apply below_alloc | apply pw_below_drewN | apply below_drew1) | exact HB.out))) : w.heap.size ≤ gb312)); have n3_ := Aside0.mk ((by rw [hg]; exact (below_size (by repeat (first | (with_reducible first | exact HB.out | apply below_alloc | apply pw_below_drewN | apply below_drew1) | exact HB.out))) : w.heap.size ≤ gb312)); clear HB; have HB := n0_; have BK312 := n1_; have GW312 := n2_; have GE312 := n3_; clear n0_ n1_ n2_ n3_; clear hb hbox hg) | ((with_reducible refine gate_dst (N := 4) rfl ?_); refine box_event ?hg (N := 4) ?hd (cs := #[.int .i64 0, .int .i64 0, .int .u64 0, .int .u64 0, .int .u64 0, .string (⟨#[]⟩ : ByteArray)]) (t := 24) ?hr ?_; (case hd => rfl); (case hg => rfl); (case hr => first | (go_simp; done) | (go_simp; rfl) | (go_simp; simp [u8w]; done)); intro gb313 hg w4 hbox hb; have n0_ := Aside0.mk (blk_below (g := gb312) (o := .cells #[.int .i64 a0_0, .int .i64 a0_1, .int .u64 a0_2, .int .u64 a0_3, .int .u64 a0_4, .string a0_5] 24 (0, 0)) (by (with_reducible repeat (first | refine blk_drewN ?_ _ | refine blk_drew ?_ | refine blk_alloc ?_ _)); exact BK312.out) hb); have n1_ := Aside0.mk (below_step (by repeat (first | (with_reducible first | exact HB.out | apply below_alloc | apply pw_below_drewN | apply below_drew1 | refine below_set ?_ GE312.out) | exact HB.out)) hb); have n2_ := Aside0.mk (hbox); have n3_ := Aside0.mk ((by rw [hg]; exact (below_size (by repeat (first | (with_reducible first | exact HB.out | apply below_alloc | apply pw_below_drewN | apply below_drew1 | refine below_set ?_ GE312.out) | exact HB.out))) : w.heap.size ≤ gb313)); have n4_ := Aside0.mk ((by rw [hg]; exact (below_size (by repeat (first | (with_reducible first | exact HB.out | apply below_alloc | apply pw_below_drewN | apply below_drew1 | refine below_set ?_ GE312.out) | exact HB.out))) : w.heap.size ≤ gb313)); have n5_ := Aside0.mk ((by rw [hg]; exact Nat.ne_of_lt (blk_lt (g := gb312) (o := .cells #[.int .i64 a0_0, .int .i64 a0_1, .int .u64 a0_2, .int .u64 a0_3, .int .u64 a0_4, .string a0_5] 24 (0, 0)) (by (with_reducible repeat (first | refine blk_drewN ?_ _ | refine blk_drew ?_ | refine blk_alloc ?_ _)); exact BK312.out)) : gb312 ≠ gb313)); have n6_ := Aside0.mk ((by rw [hg]; exact Nat.ne_of_gt (blk_lt (g := gb312) (o := .cells #[.int .i64 a0_0, .int .i64 a0_1, .int .u64 a0_2, .int .u64 a0_3, .int .u64 a0_4, .string a0_5] 24 (0, 0)) (by (with_reducible repeat (first | refine blk_drewN ?_ _ | refine blk_drew ?_ | refine blk_alloc ?_ _)); exact BK312.out)) : gb313 ≠ gb312)); clear BK312; clear HB; have BK312 := n0_; have HB := n1_; have BK313 := n2_; have GW313 := n3_; have GE313 := n4_; have NB312_313 := n5_; have NB313_312 := n6_; clear n0_ n1_ n2_ n3_ n4_ n5_ n6_; clear hb hbox hg; have hnb5 := NB312_313.out; have hnc5 := NB313_312.out; have hcz6_0 : w4.cell? ⟨gb312, 0, none⟩ = some (.int .i64 a0_0) := (blk_cell BK312.out 0).trans rfl; have hcz6_1 : w4.cell? ⟨gb312, 1, none⟩ = some (.int .i64 a0_1) := (blk_cell BK312.out 1).trans rfl; have hcz6_2 : w4.cell? ⟨gb312, 2, none⟩ = some (.int .u64 a0_2) := (blk_cell BK312.out 2).trans rfl; have hcz6_3 : w4.cell? ⟨gb312, 3, none⟩ = some (.int .u64 a0_3) := (blk_cell BK312.out 3).trans rfl; have hcz6_4 : w4.cell? ⟨gb312, 4, none⟩ = some (.int .u64 a0_4) := (blk_cell BK312.out 4).trans rfl; have hcz6_5 : w4.cell? ⟨gb312, 5, none⟩ = some (.string a0_5) := (blk_cell BK312.out 5).trans rfl; have hfz6_0 := blk_frozen BK312.out 0; have hfz6_1 := blk_frozen BK312.out 1; have hfz6_2 := blk_frozen BK312.out 2; have hfz6_3 := blk_frozen BK312.out 3; have hfz6_4 := blk_frozen BK312.out 4; have hfz6_5 := blk_frozen BK312.out 5; have hcz7_0 : w4.cell? ⟨gb313, 0, none⟩ = some (.int .i64 0) := (blk_cell BK313.out 0).trans rfl; have hcz7_1 : w4.cell? ⟨gb313, 1, none⟩ = some (.int .i64 0) := (blk_cell BK313.out 1).trans rfl; have hcz7_2 : w4.cell? ⟨gb313, 2, none⟩ = some (.int .u64 0) := (blk_cell BK313.out 2).trans rfl; have hcz7_3 : w4.cell? ⟨gb313, 3, none⟩ = some (.int .u64 0) := (blk_cell BK313.out 3).trans rfl; have hcz7_4 : w4.cell? ⟨gb313, 4, none⟩ = some (.int .u64 0) := (blk_cell BK313.out 4).trans rfl; have hcz7_5 : w4.cell? ⟨gb313, 5, none⟩ = some (.string (⟨#[]⟩ : ByteArray)) := (blk_cell BK313.out 5).trans rfl; have hfz7_0 := blk_frozen BK313.out 0; have hfz7_1 := blk_frozen BK313.out 1; have hfz7_2 := blk_frozen BK313.out 2; have hfz7_3 := blk_frozen BK313.out 3; have hfz7_4 := blk_frozen BK313.out 4; have hfz7_5 := blk_frozen BK313.out 5))
  refine bodyPost_ret (results_cell_row rfl _ _ gb313 24 #[.int .i64 a1, .int .i64 a0_1, .int .u64 a0_2, .int .u64 a0_3, .int .u64 a0_4, .string a0_5] (0, 0) _ rfl (by (with_reducible repeat (first | refine blk_drewN ?_ _ | refine blk_drew ?_ | refine blk_alloc ?_ _)); refine blk_put (cs := #[.int .i64 a1, .int .i64 a0_1, .int .u64 a0_2, .int .u64 a0_3, .int .u64 a0_4, .string (⟨#[]⟩ : ByteArray)]) ?_ 5 _ rfl; (with_reducible repeat (first | refine blk_drewN ?_ _ | refine blk_drew ?_ | refine blk_alloc ?_ _)); refine blk_put (cs := #[.int .i64 a1, .int .i64 a0_1, .int .u64 a0_2, .int .u64 a0_3, .int .u64 0, .string (⟨#[]⟩ : ByteArray)]) ?_ 4 _ rfl; (with_reducible repeat (first | refine blk_drewN ?_ _ | refine blk_drew ?_ | refine blk_alloc ?_ _)); refine blk_put (cs := #[.int .i64 a1, .int .i64 a0_1, .int .u64 a0_2, .int .u64 0, .int .u64 0, .string (⟨#[]⟩ : ByteArray)]) ?_ 3 _ rfl; (with_reducible repeat (first | refine blk_drewN ?_ _ | refine blk_drew ?_ | refine blk_alloc ?_ _)); refine blk_put (cs := #[.int .i64 a1, .int .i64 a0_1, .int .u64 0, .int .u64 0, .int .u64 0, .string (⟨#[]⟩ : ByteArray)]) ?_ 2 _ rfl; (with_reducible repeat (first | refine blk_drewN ?_ _ | refine blk_drew ?_ | refine blk_alloc ?_ _)); refine blk_put (cs := #[.int .i64 a1, .int .i64 0, .int .u64 0, .int .u64 0, .int .u64 0, .string (⟨#[]⟩ : ByteArray)]) ?_ 1 _ rfl; (with_reducible repeat (first | refine blk_drewN ?_ _ | refine blk_drew ?_ | refine blk_alloc ?_ _)); refine blk_put (cs := #[.int .i64 0, .int .i64 0, .int .u64 0, .int .u64 0, .int .u64 0, .string (⟨#[]⟩ : ByteArray)]) ?_ 0 _ rfl; (with_reducible repeat (first | refine blk_drewN ?_ _ | refine blk_drew ?_ | refine blk_alloc ?_ _)); refine blk_far ?_ NB313_312.out _; (with_reducible repeat (first | refine blk_drewN ?_ _ | refine blk_drew ?_ | refine blk_alloc ?_ _)); exact BK313.out) Tryd.underlying24 rfl (by kernel_rfl)) rfl ?_
  exact ⟨by first | rfl | (simp [errW_none, errW_some] <;> rfl) | (simp [*, errW_none, errW_some] <;> rfl) | (simp [bneNil]; done), by repeat (first | (with_reducible first | exact HB.out | apply below_alloc | apply pw_below_drewN | apply below_drew1 | refine below_set ?_ GE312.out | refine below_set ?_ GE313.out) | exact HB.out)⟩

def laws_zzFits12.l0 : Nat → List (S24) → Int → Int → Option (Bool)
  | 0, _, _, _ => none
  | k + 1, x8, x9, x10 => if x10 < x9 then (if 0 ≤ x10 then (if x10 < (x8.length : Int) then ((laws_zzFits13.f ((rd_T24 x8 x10).f0) ((rd_T24 x8 x10).f1) ((rd_T24 x8 x10).f2) ((rd_T24 x8 x10).f3) ((rd_T24 x8 x10).f4) ((rd_T24 x8 x10).f5)).bind fun t372 => (if t372 = true then (laws_zzFits12.l0 k x8 x9 (wrap64 (x10 + 1))) else (some false))) else (none)) else (none)) else (some true)

def laws_zzFits12.f (k : Nat) (l0 : List (S24)) : Option (Bool) := if (l0.length : Int) > 2147483647 then (some false) else (laws_zzFits12.l0 k l0 (l0.length : Int) 0)

theorem laws_zzFits12.mono_l : ∀ k, (∀ y0 y1 y2, LeO (laws_zzFits12.l0 k y0 y1 y2) (laws_zzFits12.l0 (k + 1) y0 y1 y2))
  | 0 => fun _ _ _ r h => by simp [laws_zzFits12.l0] at h
  | k + 1 => by
    have ih0 := laws_zzFits12.mono_l k
    · intro y0 y1 y2
      unfold laws_zzFits12.l0
      repeat' first
      | (with_reducible exact ih0 _ _ _)
      | (with_reducible exact LeO.refl _)
      | (with_reducible exact LeO.none _)
      | (with_reducible refine LeO.ite ?_ ?_)
      | (with_reducible refine LeO.bind ?_ (fun _ => ?_))
      | exact ih0 _ _ _
      | exact LeO.none _
      | refine LeO.ite ?_ ?_
      | refine LeO.bind ?_ (fun _ => ?_)

theorem laws_zzFits12.mono : ∀ a0 k, LeO (laws_zzFits12.f k a0) (laws_zzFits12.f (k + 1) a0) := by
  intro a0 k
  have ih0 := laws_zzFits12.mono_l k
  unfold laws_zzFits12.f
  repeat' first
      | (with_reducible exact ih0 _ _ _)
      | (with_reducible exact LeO.refl _)
      | (with_reducible exact LeO.none _)
      | (with_reducible refine LeO.ite ?_ ?_)
      | (with_reducible refine LeO.bind ?_ (fun _ => ?_))
      | exact ih0 _ _ _
      | exact LeO.none _
      | refine LeO.ite ?_ ?_
      | refine LeO.bind ?_ (fun _ => ?_)

set_option maxHeartbeats 80000000 in
set_option maxRecDepth 100000 in
theorem laws_zzFits12.calls (k : Nat) (A0 : Option Addr) (c0 : Nat) (l0 : List (S24)) (r : Bool) (w : World) (hr0 : Kd.C k24 w A0 l0.length l0) (hc0 : l0.length ≤ c0) (h : laws_zzFits12.f k l0 = some r) :
    Calls Tryd.prog 34 #[.slice A0 l0.length c0] w fun e w' => e = .returned (.bool r) ∧ Below w.heap.size w w' := by
  have hu24 := Tryd.underlying24
  have HR0 := Aside0.mk hr0
  have HC0 := Aside0.mk hc0
  clear hr0 hc0
  have HB := Aside0.mk (Below.refl w.heap.size w)
  have H : (if (l0.length : Int) > 2147483647 then (some false) else (laws_zzFits12.l0 k l0 (l0.length : Int) 0)) = some r := h
  clear h
  by_cases c2 : (l0.length : Int) > 2147483647
  · rw [if_pos c2] at H
    have c2b0 : decide (2147483647 < (l0.length : Int)) = true := decide_eq_true c2
    have c2b1 : decide (2147483647 < l0.length) = true := decide_eq_true (by omega)
    clear c2
    obtain rfl := Option.some.inj H
    go_enter Tryd.func34, Tryd.ntmps34
    go_wp2
    go_ret
    exact ⟨by first | rfl | (simp [errW_none, errW_some] <;> rfl) | (simp [*, errW_none, errW_some] <;> rfl) | (simp [bneNil]; done), by repeat (first | (with_reducible first | exact HB.out | apply below_alloc | apply pw_below_drewN | apply below_drew1) | exact HB.out)⟩
  · rw [if_neg c2] at H
    have c2b0 : decide (2147483647 < (l0.length : Int)) = false := decide_eq_false c2
    have c2b1 : decide (2147483647 < l0.length) = false := decide_eq_false (by omega)
    clear c2
    have H' := Aside0.mk H
    clear H
    go_enter Tryd.func34, Tryd.ntmps34
    go_wp2
    go_loopg [10] k (fun kq v10 w' => ∃ (x10_1 : Int), v10 = .int .i64 x10_1 ∧ Aside0 (laws_zzFits12.l0 kq l0 (l0.length : Int) x10_1 = some r) ∧ Aside0 (kq ≤ k) ∧ Aside0 (Below w.heap.size w w'))
    case atStart => exact ⟨(0), (by first | rfl | (simp; done) | (simp [*]; done)), H', ⟨Nat.le_refl _⟩, ⟨by repeat (first | (with_reducible first | exact HB.out | apply below_alloc | apply pw_below_drewN | apply below_drew1) | exact HB.out)⟩⟩
    case round =>
      clear H'
      try clear c2
      try clear c2b0
      try clear c2b1
      try clear p2
      obtain ⟨x10_1, rfl, HA, HK1, HB⟩ := hrel
      cases gk with
      | zero => exact absurd HA.out (by simp [laws_zzFits12.l0])
      | succ k1 =>
        have H := HA.out
        clear HA
        simp only [laws_zzFits12.l0] at H
        by_cases c3 : x10_1 < (l0.length : Int)
        · rw [if_pos c3] at H
          have c3b0 : decide (x10_1 < (l0.length : Int)) = true := decide_eq_true c3
          clear c3
          by_cases c4 : 0 ≤ x10_1
          · rw [if_pos c4] at H
            have c4b0 : decide (0 ≤ x10_1) = true := decide_eq_true c4
            clear c4
            by_cases c5 : x10_1 < (l0.length : Int)
            · rw [if_pos c5] at H
              have c5b0 : decide (x10_1 < (l0.length : Int)) = true := decide_eq_true c5
              clear c5
              replace H := Option.bind_eq_some_iff.mp H
              obtain ⟨t372, A60, H⟩ := H
              replace H : (if t372 = true then (laws_zzFits12.l0 k1 l0 (l0.length : Int) (wrap64 (x10_1 + 1))) else (some false)) = some r := H
              have A6 := Aside0.mk A60
              clear A60
              by_cases c7 : t372 = true
              · subst c7
                have H1 : (laws_zzFits12.l0 k1 l0 (l0.length : Int) (wrap64 (x10_1 + 1))) = some r := by rw [if_pos rfl] at H; exact H
                clear H
                have H := H1
                clear H1
                have H' := Aside0.mk H
                clear H
                have p370 : 0 ≤ (x10_1 : Int) := of_decide_eq_true (by first | (with_reducible assumption) | assumption)
                have q370 : x10_1 < (l0.length : Int) := of_decide_eq_true (by first | (with_reducible assumption) | assumption)
                obtain ⟨ad370, e370, hx370_0, hx370_1, hx370_2, hx370_3, hx370_4, hx370_5⟩ := at_T24 HR0.out x10_1 p370 q370
                cases e370
                replace hx370_0 := (HB.out.cell (World.block_lt_of_cell? w _ hx370_0)).trans hx370_0
                replace hx370_1 := (HB.out.cell (World.block_lt_of_cell? w _ hx370_1)).trans hx370_1
                replace hx370_2 := (HB.out.cell (World.block_lt_of_cell? w _ hx370_2)).trans hx370_2
                replace hx370_3 := (HB.out.cell (World.block_lt_of_cell? w _ hx370_3)).trans hx370_3
                replace hx370_4 := (HB.out.cell (World.block_lt_of_cell? w _ hx370_4)).trans hx370_4
                replace hx370_5 := (HB.out.cell (World.block_lt_of_cell? w _ hx370_5)).trans hx370_5
                replace p370 := eq_true p370
                replace q370 := eq_true q370
                go_wp2_with (first | ((with_reducible refine gate_dst (N := 4) rfl ?_); refine box_event ?hg (N := 4) ?hd (cs := #[.int .i64 0, .int .i64 0, .int .u64 0, .int .u64 0, .int .u64 0, .string (⟨#[]⟩ : ByteArray)]) (t := 24) ?hr ?_; (case hd => rfl); (case hg => rfl); (case hr => first | (go_simp; done) | (go_simp; rfl) | (go_simp; simp [u8w]; done)); intro gb371 hg w8 hbox hb; have n0_ := Aside0.mk (below_step (by repeat (first | (with_reducible first | exact HB.out | apply below_alloc | apply pw_below_drewN | apply below_drew1) | exact HB.out)) hb); have n1_ := Aside0.mk (hbox); have n2_ := Aside0.mk ((by rw [hg]; exact (below_size (by repeat (first | (with_reducible first | exact HB.out | apply below_alloc | apply pw_below_drewN | apply below_drew1) | exact HB.out))) : w.heap.size ≤ gb371)); have n3_ := Aside0.mk ((by rw [hg]; exact (below_size (by repeat (first | (with_reducible first | exact HB.out | apply below_alloc | apply pw_below_drewN | apply below_drew1) | exact HB.out))) : w.heap.size ≤ gb371)); clear HB; have HB := n0_; have BK371 := n1_; have GW371 := n2_; have GE371 := n3_; clear n0_ n1_ n2_ n3_; clear hb hbox hg; have hcz9_0 : w8.cell? ⟨gb371, 0, none⟩ = some (.int .i64 0) := (blk_cell BK371.out 0).trans rfl; have hcz9_1 : w8.cell? ⟨gb371, 1, none⟩ = some (.int .i64 0) := (blk_cell BK371.out 1).trans rfl; have hcz9_2 : w8.cell? ⟨gb371, 2, none⟩ = some (.int .u64 0) := (blk_cell BK371.out 2).trans rfl; have hcz9_3 : w8.cell? ⟨gb371, 3, none⟩ = some (.int .u64 0) := (blk_cell BK371.out 3).trans rfl; have hcz9_4 : w8.cell? ⟨gb371, 4, none⟩ = some (.int .u64 0) := (blk_cell BK371.out 4).trans rfl; have hcz9_5 : w8.cell? ⟨gb371, 5, none⟩ = some (.string (⟨#[]⟩ : ByteArray)) := (blk_cell BK371.out 5).trans rfl; have hfz9_0 := blk_frozen BK371.out 0; have hfz9_1 := blk_frozen BK371.out 1; have hfz9_2 := blk_frozen BK371.out 2; have hfz9_3 := blk_frozen BK371.out 3; have hfz9_4 := blk_frozen BK371.out 4; have hfz9_5 := blk_frozen BK371.out 5) | ((with_reducible refine gate_callee (f := 13) rfl ?_); refine goesL_ (some 15) rfl rfl Tryd.func13 (by kernel_rfl) rfl #[.agg #[.int .i64 ((rd_T24 l0 x10_1).f0), .int .i64 ((rd_T24 l0 x10_1).f1), .int .u64 ((rd_T24 l0 x10_1).f2), .int .u64 ((rd_T24 l0 x10_1).f3), .int .u64 ((rd_T24 l0 x10_1).f4), .string ((rd_T24 l0 x10_1).f5)]] rfl (by (try simp only [List.map_toArray, List.map_cons, List.map_nil]); first | done | rfl | (simp only [List.length_drop, List.length_take]; rfl)) ?_; (with_reducible refine (laws_zzFits13.calls ((rd_T24 l0 x10_1).f0) ((rd_T24 l0 x10_1).f1) ((rd_T24 l0 x10_1).f2) ((rd_T24 l0 x10_1).f3) ((rd_T24 l0 x10_1).f4) ((rd_T24 l0 x10_1).f5) true _ A6.out).mono ?_); rintro e w10 ⟨rfl, hb⟩; refine ⟨_, rfl, ?_⟩; have n0_ := Aside0.mk (blk_below (g := gb371) (o := .cells #[.int .i64 ((rd_T24 l0 x10_1).f0), .int .i64 ((rd_T24 l0 x10_1).f1), .int .u64 ((rd_T24 l0 x10_1).f2), .int .u64 ((rd_T24 l0 x10_1).f3), .int .u64 ((rd_T24 l0 x10_1).f4), .string ((rd_T24 l0 x10_1).f5)] 24 (0, 0)) (by (with_reducible repeat (first | refine blk_drewN ?_ _ | refine blk_drew ?_ | refine blk_alloc ?_ _)); refine blk_put (cs := #[.int .i64 ((rd_T24 l0 x10_1).f0), .int .i64 ((rd_T24 l0 x10_1).f1), .int .u64 ((rd_T24 l0 x10_1).f2), .int .u64 ((rd_T24 l0 x10_1).f3), .int .u64 ((rd_T24 l0 x10_1).f4), .string (⟨#[]⟩ : ByteArray)]) ?_ 5 _ rfl; (with_reducible repeat (first | refine blk_drewN ?_ _ | refine blk_drew ?_ | refine blk_alloc ?_ _)); refine blk_put (cs := #[.int .i64 ((rd_T24 l0 x10_1).f0), .int .i64 ((rd_T24 l0 x10_1).f1), .int .u64 ((rd_T24 l0 x10_1).f2), .int .u64 ((rd_T24 l0 x10_1).f3), .int .u64 0, .string (⟨#[]⟩ : ByteArray)]) ?_ 4 _ rfl; (with_reducible repeat (first | refine blk_drewN ?_ _ | refine blk_drew ?_ | refine blk_alloc ?_ _)); refine blk_put (cs := #[.int .i64 ((rd_T24 l0 x10_1).f0), .int .i64 ((rd_T24 l0 x10_1).f1), .int .u64 ((rd_T24 l0 x10_1).f2), .int .u64 0, .int .u64 0, .string (⟨#[]⟩ : ByteArray)]) ?_ 3 _ rfl; (with_reducible repeat (first | refine blk_drewN ?_ _ | refine blk_drew ?_ | refine blk_alloc ?_ _)); refine blk_put (cs := #[.int .i64 ((rd_T24 l0 x10_1).f0), .int .i64 ((rd_T24 l0 x10_1).f1), .int .u64 0, .int .u64 0, .int .u64 0, .string (⟨#[]⟩ : ByteArray)]) ?_ 2 _ rfl; (with_reducible repeat (first | refine blk_drewN ?_ _ | refine blk_drew ?_ | refine blk_alloc ?_ _)); refine blk_put (cs := #[.int .i64 ((rd_T24 l0 x10_1).f0), .int .i64 0, .int .u64 0, .int .u64 0, .int .u64 0, .string (⟨#[]⟩ : ByteArray)]) ?_ 1 _ rfl; (with_reducible repeat (first | refine blk_drewN ?_ _ | refine blk_drew ?_ | refine blk_alloc ?_ _)); refine blk_put (cs := #[.int .i64 0, .int .i64 0, .int .u64 0, .int .u64 0, .int .u64 0, .string (⟨#[]⟩ : ByteArray)]) ?_ 0 _ rfl; (with_reducible repeat (first | refine blk_drewN ?_ _ | refine blk_drew ?_ | refine blk_alloc ?_ _)); exact BK371.out) hb); have n1_ := Aside0.mk (below_step (by repeat (first | (with_reducible first | exact HB.out | apply below_alloc | apply pw_below_drewN | apply below_drew1 | refine below_set ?_ GE371.out) | exact HB.out)) hb); clear BK371; clear HB; have BK371 := n0_; have HB := n1_; clear n0_ n1_; (try clear hb); (try clear hb2); (try clear hk); (try clear hi)))
                go_roundg k1
                case measure => have := HK1.out; omega
                case rel => exact ⟨(wrap64 (x10_1 + 1)), (by first | rfl | (simp; done) | (simp [*]; done)), H', ⟨by have := HK1.out; omega⟩, ⟨by repeat (first | (with_reducible first | exact HB.out | apply below_alloc | apply pw_below_drewN | apply below_drew1 | refine below_set ?_ GE371.out) | exact HB.out)⟩⟩
              · replace c7 := Bool.eq_false_iff.mpr c7
                subst c7
                have H1 : (some false) = some r := by rw [if_neg (show ¬ (false = true) by decide)] at H; exact H
                clear H
                have H := H1
                clear H1
                obtain rfl := Option.some.inj H
                have p370 : 0 ≤ (x10_1 : Int) := of_decide_eq_true (by first | (with_reducible assumption) | assumption)
                have q370 : x10_1 < (l0.length : Int) := of_decide_eq_true (by first | (with_reducible assumption) | assumption)
                obtain ⟨ad370, e370, hx370_0, hx370_1, hx370_2, hx370_3, hx370_4, hx370_5⟩ := at_T24 HR0.out x10_1 p370 q370
                cases e370
                replace hx370_0 := (HB.out.cell (World.block_lt_of_cell? w _ hx370_0)).trans hx370_0
                replace hx370_1 := (HB.out.cell (World.block_lt_of_cell? w _ hx370_1)).trans hx370_1
                replace hx370_2 := (HB.out.cell (World.block_lt_of_cell? w _ hx370_2)).trans hx370_2
                replace hx370_3 := (HB.out.cell (World.block_lt_of_cell? w _ hx370_3)).trans hx370_3
                replace hx370_4 := (HB.out.cell (World.block_lt_of_cell? w _ hx370_4)).trans hx370_4
                replace hx370_5 := (HB.out.cell (World.block_lt_of_cell? w _ hx370_5)).trans hx370_5
                replace p370 := eq_true p370
                replace q370 := eq_true q370
                go_wp2_with (first | ((with_reducible refine gate_dst (N := 4) rfl ?_); refine box_event ?hg (N := 4) ?hd (cs := #[.int .i64 0, .int .i64 0, .int .u64 0, .int .u64 0, .int .u64 0, .string (⟨#[]⟩ : ByteArray)]) (t := 24) ?hr ?_; (case hd => rfl); (case hg => rfl); (case hr => first | (go_simp; done) | (go_simp; rfl) | (go_simp; simp [u8w]; done)); intro gb371 hg w11 hbox hb; have n0_ := Aside0.mk (below_step (by repeat (first | (with_reducible first | exact HB.out | apply below_alloc | apply pw_below_drewN | apply below_drew1) | exact HB.out)) hb); have n1_ := Aside0.mk (hbox); have n2_ := Aside0.mk ((by rw [hg]; exact (below_size (by repeat (first | (with_reducible first | exact HB.out | apply below_alloc | apply pw_below_drewN | apply below_drew1) | exact HB.out))) : w.heap.size ≤ gb371)); have n3_ := Aside0.mk ((by rw [hg]; exact (below_size (by repeat (first | (with_reducible first | exact HB.out | apply below_alloc | apply pw_below_drewN | apply below_drew1) | exact HB.out))) : w.heap.size ≤ gb371)); clear HB; have HB := n0_; have BK371 := n1_; have GW371 := n2_; have GE371 := n3_; clear n0_ n1_ n2_ n3_; clear hb hbox hg; have hcz12_0 : w11.cell? ⟨gb371, 0, none⟩ = some (.int .i64 0) := (blk_cell BK371.out 0).trans rfl; have hcz12_1 : w11.cell? ⟨gb371, 1, none⟩ = some (.int .i64 0) := (blk_cell BK371.out 1).trans rfl; have hcz12_2 : w11.cell? ⟨gb371, 2, none⟩ = some (.int .u64 0) := (blk_cell BK371.out 2).trans rfl; have hcz12_3 : w11.cell? ⟨gb371, 3, none⟩ = some (.int .u64 0) := (blk_cell BK371.out 3).trans rfl; have hcz12_4 : w11.cell? ⟨gb371, 4, none⟩ = some (.int .u64 0) := (blk_cell BK371.out 4).trans rfl; have hcz12_5 : w11.cell? ⟨gb371, 5, none⟩ = some (.string (⟨#[]⟩ : ByteArray)) := (blk_cell BK371.out 5).trans rfl; have hfz12_0 := blk_frozen BK371.out 0; have hfz12_1 := blk_frozen BK371.out 1; have hfz12_2 := blk_frozen BK371.out 2; have hfz12_3 := blk_frozen BK371.out 3; have hfz12_4 := blk_frozen BK371.out 4; have hfz12_5 := blk_frozen BK371.out 5) | ((with_reducible refine gate_callee (f := 13) rfl ?_); refine goesL_ (some 15) rfl rfl Tryd.func13 (by kernel_rfl) rfl #[.agg #[.int .i64 ((rd_T24 l0 x10_1).f0), .int .i64 ((rd_T24 l0 x10_1).f1), .int .u64 ((rd_T24 l0 x10_1).f2), .int .u64 ((rd_T24 l0 x10_1).f3), .int .u64 ((rd_T24 l0 x10_1).f4), .string ((rd_T24 l0 x10_1).f5)]] rfl (by (try simp only [List.map_toArray, List.map_cons, List.map_nil]); first | done | rfl | (simp only [List.length_drop, List.length_take]; rfl)) ?_; (with_reducible refine (laws_zzFits13.calls ((rd_T24 l0 x10_1).f0) ((rd_T24 l0 x10_1).f1) ((rd_T24 l0 x10_1).f2) ((rd_T24 l0 x10_1).f3) ((rd_T24 l0 x10_1).f4) ((rd_T24 l0 x10_1).f5) false _ A6.out).mono ?_); rintro e w13 ⟨rfl, hb⟩; refine ⟨_, rfl, ?_⟩; have n0_ := Aside0.mk (blk_below (g := gb371) (o := .cells #[.int .i64 ((rd_T24 l0 x10_1).f0), .int .i64 ((rd_T24 l0 x10_1).f1), .int .u64 ((rd_T24 l0 x10_1).f2), .int .u64 ((rd_T24 l0 x10_1).f3), .int .u64 ((rd_T24 l0 x10_1).f4), .string ((rd_T24 l0 x10_1).f5)] 24 (0, 0)) (by (with_reducible repeat (first | refine blk_drewN ?_ _ | refine blk_drew ?_ | refine blk_alloc ?_ _)); refine blk_put (cs := #[.int .i64 ((rd_T24 l0 x10_1).f0), .int .i64 ((rd_T24 l0 x10_1).f1), .int .u64 ((rd_T24 l0 x10_1).f2), .int .u64 ((rd_T24 l0 x10_1).f3), .int .u64 ((rd_T24 l0 x10_1).f4), .string (⟨#[]⟩ : ByteArray)]) ?_ 5 _ rfl; (with_reducible repeat (first | refine blk_drewN ?_ _ | refine blk_drew ?_ | refine blk_alloc ?_ _)); refine blk_put (cs := #[.int .i64 ((rd_T24 l0 x10_1).f0), .int .i64 ((rd_T24 l0 x10_1).f1), .int .u64 ((rd_T24 l0 x10_1).f2), .int .u64 ((rd_T24 l0 x10_1).f3), .int .u64 0, .string (⟨#[]⟩ : ByteArray)]) ?_ 4 _ rfl; (with_reducible repeat (first | refine blk_drewN ?_ _ | refine blk_drew ?_ | refine blk_alloc ?_ _)); refine blk_put (cs := #[.int .i64 ((rd_T24 l0 x10_1).f0), .int .i64 ((rd_T24 l0 x10_1).f1), .int .u64 ((rd_T24 l0 x10_1).f2), .int .u64 0, .int .u64 0, .string (⟨#[]⟩ : ByteArray)]) ?_ 3 _ rfl; (with_reducible repeat (first | refine blk_drewN ?_ _ | refine blk_drew ?_ | refine blk_alloc ?_ _)); refine blk_put (cs := #[.int .i64 ((rd_T24 l0 x10_1).f0), .int .i64 ((rd_T24 l0 x10_1).f1), .int .u64 0, .int .u64 0, .int .u64 0, .string (⟨#[]⟩ : ByteArray)]) ?_ 2 _ rfl; (with_reducible repeat (first | refine blk_drewN ?_ _ | refine blk_drew ?_ | refine blk_alloc ?_ _)); refine blk_put (cs := #[.int .i64 ((rd_T24 l0 x10_1).f0), .int .i64 0, .int .u64 0, .int .u64 0, .int .u64 0, .string (⟨#[]⟩ : ByteArray)]) ?_ 1 _ rfl; (with_reducible repeat (first | refine blk_drewN ?_ _ | refine blk_drew ?_ | refine blk_alloc ?_ _)); refine blk_put (cs := #[.int .i64 0, .int .i64 0, .int .u64 0, .int .u64 0, .int .u64 0, .string (⟨#[]⟩ : ByteArray)]) ?_ 0 _ rfl; (with_reducible repeat (first | refine blk_drewN ?_ _ | refine blk_drew ?_ | refine blk_alloc ?_ _)); exact BK371.out) hb); have n1_ := Aside0.mk (below_step (by repeat (first | (with_reducible first | exact HB.out | apply below_alloc | apply pw_below_drewN | apply below_drew1 | refine below_set ?_ GE371.out) | exact HB.out)) hb); clear BK371; clear HB; have BK371 := n0_; have HB := n1_; clear n0_ n1_; (try clear hb); (try clear hb2); (try clear hk); (try clear hi)))
                go_ret
                exact ⟨by first | rfl | (simp [errW_none, errW_some] <;> rfl) | (simp [*, errW_none, errW_some] <;> rfl) | (simp [bneNil]; done), by repeat (first | (with_reducible first | exact HB.out | apply below_alloc | apply pw_below_drewN | apply below_drew1 | refine below_set ?_ GE371.out) | exact HB.out)⟩
            · rw [if_neg c5] at H
              exact absurd H (by simp)
          · rw [if_neg c4] at H
            exact absurd H (by simp)
        · rw [if_neg c3] at H
          have c3b0 : decide (x10_1 < (l0.length : Int)) = false := decide_eq_false c3
          clear c3
          obtain rfl := Option.some.inj H
          go_wp2
          go_ret
          exact ⟨by first | rfl | (simp [errW_none, errW_some] <;> rfl) | (simp [*, errW_none, errW_some] <;> rfl) | (simp [bneNil]; done), by repeat (first | (with_reducible first | exact HB.out | apply below_alloc | apply pw_below_drewN | apply below_drew1) | exact HB.out)⟩

end Go.Proofs.YtllkoadcpobdaaaDoor.PX
namespace Go.Proofs.YtllkoadcpobdaaaDoor.PX

open Go.RowKit Go.Proofs.YtllkoadcpobdaaaDoorW.PrintWords Go.Proofs.YtllkoadcpobdaaaDoorW.PrintLast Go.Proofs.YtllkoadcpobdaaaDoorW.PrintMore

attribute [local go_sem] max2_int min2_int max_two min_two max_three min_three max_four min_four   -- for this text's walks alone

set_option linter.unusedVariables false

set_option linter.unusedSimpArgs false

mutual
def spec_GoodTerms.l0 : Nat → Int → Int → List (List (S24)) → Int → Int → Option (Bool)
  | 0, _, _, _, _, _ => none
  | k + 1, x1, x5, x10, x11, x12 => if x12 < x11 then (if 0 ≤ x12 then (if x12 < (x10.length : Int) then (spec_GoodTerms.l1 k x1 x5 (rd_L5 x10 x12) x10 x11 x12 (rd_L5 x10 x12) ((rd_L5 x10 x12).length : Int) 0) else (none)) else (none)) else (some (decide (x5 > 0)))
def spec_GoodTerms.l1 : Nat → Int → Int → List (S24) → List (List (S24)) → Int → Int → List (S24) → Int → Int → Option (Bool)
  | 0, _, _, _, _, _, _, _, _, _ => none
  | k + 1, x1, x5, x7, x10, x11, x12, x16, x17, x18 => if x18 < x17 then (if 0 ≤ x18 then (if x18 < (x16.length : Int) then ((spec_GoodTerm.f k ((rd_T24 x16 x18).f0) ((rd_T24 x16 x18).f1) ((rd_T24 x16 x18).f2) ((rd_T24 x16 x18).f3) ((rd_T24 x16 x18).f4) ((rd_T24 x16 x18).f5)).bind fun t376 => (if t376 = true then (spec_GoodTerms.l1 k x1 x5 x7 x10 x11 x12 x16 x17 (wrap64 (x18 + 1))) else (some false))) else (none)) else (none)) else (if (x7.length : Int) = 0 then (some false) else (if (wrap64 (x5 + (x7.length : Int))) > x1 then (some false) else (spec_GoodTerms.l0 k x1 (wrap64 (x5 + (x7.length : Int))) x10 x11 (wrap64 (x12 + 1)))))
end

def spec_GoodTerms.f (k : Nat) (l0 : List (List (S24))) (a1 : Int) : Option (Bool) := spec_GoodTerms.l0 k a1 0 l0 (l0.length : Int) 0

theorem spec_GoodTerms.mono_l : ∀ k, (∀ y0 y1 y2 y3 y4, LeO (spec_GoodTerms.l0 k y0 y1 y2 y3 y4) (spec_GoodTerms.l0 (k + 1) y0 y1 y2 y3 y4)) ∧ (∀ y0 y1 y2 y3 y4 y5 y6 y7 y8, LeO (spec_GoodTerms.l1 k y0 y1 y2 y3 y4 y5 y6 y7 y8) (spec_GoodTerms.l1 (k + 1) y0 y1 y2 y3 y4 y5 y6 y7 y8))
  | 0 => ⟨fun _ _ _ _ _ r h => by simp [spec_GoodTerms.l0] at h, fun _ _ _ _ _ _ _ _ _ r h => by simp [spec_GoodTerms.l1] at h⟩
  | k + 1 => by
    obtain ⟨ih0, ih1⟩ := spec_GoodTerms.mono_l k
    refine ⟨?_, ?_⟩
    · intro y0 y1 y2 y3 y4
      unfold spec_GoodTerms.l0
      repeat' first
      | (with_reducible exact ih0 _ _ _ _ _)
      | (with_reducible exact ih1 _ _ _ _ _ _ _ _ _)
      | (with_reducible exact spec_GoodTerm.mono _ _ _ _ _ _ _)
      | (with_reducible exact LeO.refl _)
      | (with_reducible exact LeO.none _)
      | (with_reducible refine LeO.ite ?_ ?_)
      | (with_reducible refine LeO.bind ?_ (fun _ => ?_))
      | exact ih0 _ _ _ _ _
      | exact ih1 _ _ _ _ _ _ _ _ _
      | exact spec_GoodTerm.mono _ _ _ _ _ _ _
      | exact LeO.none _
      | refine LeO.ite ?_ ?_
      | refine LeO.bind ?_ (fun _ => ?_)
    · intro y0 y1 y2 y3 y4 y5 y6 y7 y8
      unfold spec_GoodTerms.l1
      repeat' first
      | (with_reducible exact ih0 _ _ _ _ _)
      | (with_reducible exact ih1 _ _ _ _ _ _ _ _ _)
      | (with_reducible exact spec_GoodTerm.mono _ _ _ _ _ _ _)
      | (with_reducible exact LeO.refl _)
      | (with_reducible exact LeO.none _)
      | (with_reducible refine LeO.ite ?_ ?_)
      | (with_reducible refine LeO.bind ?_ (fun _ => ?_))
      | exact ih0 _ _ _ _ _
      | exact ih1 _ _ _ _ _ _ _ _ _
      | exact spec_GoodTerm.mono _ _ _ _ _ _ _
      | exact LeO.none _
      | refine LeO.ite ?_ ?_
      | refine LeO.bind ?_ (fun _ => ?_)

theorem spec_GoodTerms.mono : ∀ a0 a1 k, LeO (spec_GoodTerms.f k a0 a1) (spec_GoodTerms.f (k + 1) a0 a1) := by
  intro a0 a1 k
  obtain ⟨ih0, ih1⟩ := spec_GoodTerms.mono_l k
  unfold spec_GoodTerms.f
  repeat' first
      | (with_reducible exact ih0 _ _ _ _ _)
      | (with_reducible exact ih1 _ _ _ _ _ _ _ _ _)
      | (with_reducible exact spec_GoodTerm.mono _ _ _ _ _ _ _)
      | (with_reducible exact LeO.refl _)
      | (with_reducible exact LeO.none _)
      | (with_reducible refine LeO.ite ?_ ?_)
      | (with_reducible refine LeO.bind ?_ (fun _ => ?_))
      | exact ih0 _ _ _ _ _
      | exact ih1 _ _ _ _ _ _ _ _ _
      | exact spec_GoodTerm.mono _ _ _ _ _ _ _
      | exact LeO.none _
      | refine LeO.ite ?_ ?_
      | refine LeO.bind ?_ (fun _ => ?_)

end Go.Proofs.YtllkoadcpobdaaaDoor.PX
