/- The row and the tied card of FnSemverTermHolds, out of its printed walk and its plain law. For every input that the statement lets in. -/
import Derived.Test.YtllkoadcpobdaaaDoorZCardSemverTermHolds6
namespace Go.Proofs.YtllkoadcpobdaaaDoor.PX

open Go.RowKit Go.Proofs.YtllkoadcpobdaaaDoorW.PrintWords Go.Proofs.YtllkoadcpobdaaaDoorW.PrintLast Go.Proofs.YtllkoadcpobdaaaDoorW.PrintMore

attribute [local go_sem] max2_int min2_int max_two min_two max_three min_three max_four min_four   -- for this text's walks alone

set_option linter.unusedVariables false

set_option linter.unusedSimpArgs false

set_option maxHeartbeats 80000000 in
set_option maxRecDepth 100000 in
theorem spec_ComparePre.calls (k : Nat) (a0 : ByteArray) (a1 : ByteArray) (r : Int) (w : World) (h : spec_ComparePre.f k a0 a1 = some r) :
  Calls Tryd.prog 85 #[.string a0, .string a1] w fun e w' => e = .returned (.int .i64 r) ∧ Below w.heap.size w w' := by
 have HB := Aside0.mk (Below.refl w.heap.size w)
 have H : (if a0.toList = a1.toList then (some 0) else (if a0.toList = ([] : List UInt8) then (some 1) else (if a1.toList = ([] : List UInt8) then (some (-1)) else ((spec_Identifiers.f k a0).bind fun t156 => ((spec_Identifiers.f k a1).bind fun t159 => (spec_ComparePre.l0 k t156 t159 0)))))) = some r := h
 clear h
 by_cases c3 : a0.toList = a1.toList
 ·
  rw [if_pos c3] at H
  have c3b0 : (a0.toList == a1.toList) = true := beq_iff_eq.mpr c3
  have c3b1 : (a0.toList != a1.toList) = false := bne_eq_false_iff_eq.mpr c3
  clear c3
  obtain rfl := Option.some.inj H
  go_enter Tryd.func85, Tryd.ntmps85
  go_wp2
  repeat (go_quiet (fail); try go_wp2)
  go_ret
  exact ⟨by first | rfl | (simp [errW_none, errW_some] <;> rfl) | (simp [*, errW_none, errW_some] <;> rfl) | (simp [bneNil]; done), by repeat (first | (with_reducible first | exact HB.out | apply below_alloc | apply pw_below_drewN | apply below_drew1) | exact HB.out)⟩
 ·
  rw [if_neg c3] at H
  have c3b0 : (a0.toList == a1.toList) = false := beq_eq_false_iff_ne.mpr c3
  have c3b1 : (a0.toList != a1.toList) = true := bne_iff_ne.mpr c3
  by_cases c4 : a0.toList = ([] : List UInt8)
  ·
   rw [if_pos c4] at H
   have c4b0 : (a0.toList == ([] : List UInt8)) = true := beq_iff_eq.mpr c4
   have c4b1 : (a0.toList != ([] : List UInt8)) = false := bne_eq_false_iff_eq.mpr c4
   clear c4
   obtain rfl := Option.some.inj H
   go_enter Tryd.func85, Tryd.ntmps85
   go_wp2
   repeat (go_quiet (fail); try go_wp2)
   go_ret
   exact ⟨by first | rfl | (simp [errW_none, errW_some] <;> rfl) | (simp [*, errW_none, errW_some] <;> rfl) | (simp [bneNil]; done), by repeat (first | (with_reducible first | exact HB.out | apply below_alloc | apply pw_below_drewN | apply below_drew1) | exact HB.out)⟩
  ·
   rw [if_neg c4] at H
   have c4b0 : (a0.toList == ([] : List UInt8)) = false := beq_eq_false_iff_ne.mpr c4
   have c4b1 : (a0.toList != ([] : List UInt8)) = true := bne_iff_ne.mpr c4
   by_cases c5 : a1.toList = ([] : List UInt8)
   ·
    rw [if_pos c5] at H
    have c5b0 : (a1.toList == ([] : List UInt8)) = true := beq_iff_eq.mpr c5
    have c5b1 : (a1.toList != ([] : List UInt8)) = false := bne_eq_false_iff_eq.mpr c5
    clear c5
    obtain rfl := Option.some.inj H
    go_enter Tryd.func85, Tryd.ntmps85
    go_wp2
    repeat (go_quiet (fail); try go_wp2)
    go_ret
    exact ⟨by first | rfl | (simp [errW_none, errW_some] <;> rfl) | (simp [*, errW_none, errW_some] <;> rfl) | (simp [bneNil]; done), by repeat (first | (with_reducible first | exact HB.out | apply below_alloc | apply pw_below_drewN | apply below_drew1) | exact HB.out)⟩
   ·
    rw [if_neg c5] at H
    have c5b0 : (a1.toList == ([] : List UInt8)) = false := beq_eq_false_iff_ne.mpr c5
    have c5b1 : (a1.toList != ([] : List UInt8)) = true := bne_iff_ne.mpr c5
    replace H := Option.bind_eq_some_iff.mp H
    obtain ⟨t156, A60, H⟩ := H
    replace H : ((spec_Identifiers.f k a1).bind fun t159 => (spec_ComparePre.l0 k t156 t159 0)) = some r := H
    have A6 := Aside0.mk A60
    clear A60
    replace H := Option.bind_eq_some_iff.mp H
    obtain ⟨t159, A70, H⟩ := H
    replace H : (spec_ComparePre.l0 k t156 t159 0) = some r := H
    have A7 := Aside0.mk A70
    clear A70
    have H' := Aside0.mk H
    clear H
    go_enter Tryd.func85, Tryd.ntmps85
    go_wp2_with (first | (go_at_call 77; (with_reducible refine (spec_Identifiers.calls k a0 t156 _ A6.out).mono ?_); rintro e w8 ⟨v157, rfl, ho0, hb⟩; have n0_ := Aside0.mk (Kd.R_lower ho0 (below_size (by repeat (first | (with_reducible first | exact HB.out | apply below_alloc | apply pw_below_drewN | apply below_drew1) | exact HB.out)))); have n1_ := Aside0.mk (below_step (by repeat (first | (with_reducible first | exact HB.out | apply below_alloc | apply pw_below_drewN | apply below_drew1) | exact HB.out)) hb); clear HB; have HO158 := n0_; have HB := n1_; clear n0_ n1_; (try clear hb); (try clear hb2); (try clear hk); (try clear hi); (try clear ho0)) | (go_at_call 77; (with_reducible refine (spec_Identifiers.calls k a1 t159 _ A7.out).mono ?_); rintro e w9 ⟨v160, rfl, ho0, hb⟩; have n0_ := Aside0.mk (Kd.R_elder' (by (with_reducible repeat (first | apply Kd.R_alloc | apply Kd.R_drewN | apply Kd.R_drew)); exact HO158.out) (Kd.R_base ho0) hb); have n1_ := Aside0.mk (Kd.R_lower (Kd.R_new' ho0 (Kd.R_lt (by (with_reducible repeat (first | apply Kd.R_alloc | apply Kd.R_drewN | apply Kd.R_drew)); exact HO158.out))) (below_size (by repeat (first | (with_reducible first | exact HB.out | apply below_alloc | apply pw_below_drewN | apply below_drew1) | exact HB.out)))); have n2_ := Aside0.mk (below_step (by repeat (first | (with_reducible first | exact HB.out | apply below_alloc | apply pw_below_drewN | apply below_drew1) | exact HB.out)) hb); clear HO158; clear HB; have HO158 := n0_; have HO161 := n1_; have HB := n2_; clear n0_ n1_ n2_; (try clear hb); (try clear hb2); (try clear hk); (try clear hi); (try clear ho0)))
    repeat (go_quiet (first | (go_at_call 77; (with_reducible refine (spec_Identifiers.calls k a0 t156 _ A6.out).mono ?_); rintro e w8 ⟨v157, rfl, ho0, hb⟩; have n0_ := Aside0.mk (Kd.R_lower ho0 (below_size (by repeat (first | (with_reducible first | exact HB.out | apply below_alloc | apply pw_below_drewN | apply below_drew1) | exact HB.out)))); have n1_ := Aside0.mk (below_step (by repeat (first | (with_reducible first | exact HB.out | apply below_alloc | apply pw_below_drewN | apply below_drew1) | exact HB.out)) hb); clear HB; have HO158 := n0_; have HB := n1_; clear n0_ n1_; (try clear hb); (try clear hb2); (try clear hk); (try clear hi); (try clear ho0)) | (go_at_call 77; (with_reducible refine (spec_Identifiers.calls k a1 t159 _ A7.out).mono ?_); rintro e w9 ⟨v160, rfl, ho0, hb⟩; have n0_ := Aside0.mk (Kd.R_elder' (by (with_reducible repeat (first | apply Kd.R_alloc | apply Kd.R_drewN | apply Kd.R_drew)); exact HO158.out) (Kd.R_base ho0) hb); have n1_ := Aside0.mk (Kd.R_lower (Kd.R_new' ho0 (Kd.R_lt (by (with_reducible repeat (first | apply Kd.R_alloc | apply Kd.R_drewN | apply Kd.R_drew)); exact HO158.out))) (below_size (by repeat (first | (with_reducible first | exact HB.out | apply below_alloc | apply pw_below_drewN | apply below_drew1) | exact HB.out)))); have n2_ := Aside0.mk (below_step (by repeat (first | (with_reducible first | exact HB.out | apply below_alloc | apply pw_below_drewN | apply below_drew1) | exact HB.out)) hb); clear HO158; clear HB; have HO158 := n0_; have HO161 := n1_; have HB := n2_; clear n0_ n1_ n2_; (try clear hb); (try clear hb2); (try clear hk); (try clear hi); (try clear ho0))); try go_wp2_with (first | (go_at_call 77; (with_reducible refine (spec_Identifiers.calls k a0 t156 _ A6.out).mono ?_); rintro e w8 ⟨v157, rfl, ho0, hb⟩; have n0_ := Aside0.mk (Kd.R_lower ho0 (below_size (by repeat (first | (with_reducible first | exact HB.out | apply below_alloc | apply pw_below_drewN | apply below_drew1) | exact HB.out)))); have n1_ := Aside0.mk (below_step (by repeat (first | (with_reducible first | exact HB.out | apply below_alloc | apply pw_below_drewN | apply below_drew1) | exact HB.out)) hb); clear HB; have HO158 := n0_; have HB := n1_; clear n0_ n1_; (try clear hb); (try clear hb2); (try clear hk); (try clear hi); (try clear ho0)) | (go_at_call 77; (with_reducible refine (spec_Identifiers.calls k a1 t159 _ A7.out).mono ?_); rintro e w9 ⟨v160, rfl, ho0, hb⟩; have n0_ := Aside0.mk (Kd.R_elder' (by (with_reducible repeat (first | apply Kd.R_alloc | apply Kd.R_drewN | apply Kd.R_drew)); exact HO158.out) (Kd.R_base ho0) hb); have n1_ := Aside0.mk (Kd.R_lower (Kd.R_new' ho0 (Kd.R_lt (by (with_reducible repeat (first | apply Kd.R_alloc | apply Kd.R_drewN | apply Kd.R_drew)); exact HO158.out))) (below_size (by repeat (first | (with_reducible first | exact HB.out | apply below_alloc | apply pw_below_drewN | apply below_drew1) | exact HB.out)))); have n2_ := Aside0.mk (below_step (by repeat (first | (with_reducible first | exact HB.out | apply below_alloc | apply pw_below_drewN | apply below_drew1) | exact HB.out)) hb); clear HO158; clear HB; have HO158 := n0_; have HO161 := n1_; have HB := n2_; clear n0_ n1_ n2_; (try clear hb); (try clear hb2); (try clear hk); (try clear hi); (try clear ho0))))
    go_loopg [7] k (fun kq v7 w' => ∃ (x7_1 : Int), v7 = .int .i64 x7_1 ∧ Aside0 (spec_ComparePre.l0 kq t156 t159 x7_1 = some r) ∧ Aside0 (kq ≤ k) ∧ Aside0 (Kd.R Kd.string 9 w' w.heap.size (fun k_ => some k_ ≠ (v160 : Value).ownBlock) v157 t156) ∧ Aside0 (Kd.R Kd.string 9 w' w.heap.size (fun k_ => some k_ ≠ (v157 : Value).ownBlock) v160 t159) ∧ Aside0 (Below w.heap.size w w'))
    case atStart => exact ⟨(0), (by first | rfl | (simp; done) | (simp [*]; done)), H', ⟨Nat.le_refl _⟩, ⟨by (with_reducible repeat (first | apply Kd.R_alloc | apply Kd.R_drewN | apply Kd.R_drew)); exact Kd.R_mono HO158.out (fun _ hk => hk.2)⟩, ⟨by (with_reducible repeat (first | apply Kd.R_alloc | apply Kd.R_drewN | apply Kd.R_drew)); exact Kd.R_mono HO161.out (fun _ hk => hk.2)⟩, ⟨by repeat (first | (with_reducible first | exact HB.out | apply below_alloc | apply pw_below_drewN | apply below_drew1) | exact HB.out)⟩⟩
    case round =>
     clear H'
     try clear p2
     try clear c3
     try clear c3b0
     try clear c3b1
     try clear c4
     try clear c4b0
     try clear c4b1
     try clear c5
     try clear c5b0
     try clear c5b1
     try clear c8
     obtain ⟨x7_1, rfl, HA, HK1, HO_5, HO_6, HB⟩ := hrel
     cases gk with
     | zero => exact absurd HA.out (by simp [spec_ComparePre.l0])
     | succ k1 =>
      have H := HA.out
      clear HA
      simp only [spec_ComparePre.l0] at H
      have HC10 := Aside0.mk H
      clear H
      go_upto_region 9 with (fail)
      repeat (go_quiet (fail); go_upto_region 9 with (fail))
      go_cut [32] (fun v32 wc => ∃ (kq : Nat) (x32_9 : Bool), v32 = .bool x32_9 ∧ Aside0 (spec_ComparePre.j1 kq t156 t159 x7_1 x32_9 = some r) ∧ Aside0 (kq ≤ k1) ∧ Aside0 (Kd.R Kd.string 9 wc w.heap.size (fun k_ => some k_ ≠ (v160 : Value).ownBlock) v157 t156) ∧ Aside0 (Kd.R Kd.string 9 wc w.heap.size (fun k_ => some k_ ≠ (v157 : Value).ownBlock) v160 t159) ∧ Aside0 (Below w.heap.size w wc))
      case first =>
       have H := HC10.out
       clear HC10
       by_cases c11 : x7_1 < (t156.length : Int)
       ·
        rw [if_pos c11] at H
        have c11b0 : decide (x7_1 < (t156.length : Int)) = true := decide_eq_true c11
        clear c11
        (first | rw [c11b0] | (simp only [i64_w, i32_w]; rw [c11b0]) | skip)
        have H' := Aside0.mk H
        clear H
        obtain ⟨Ao12, co12, eo12⟩ := Kd.R_slice HO_5.out
        subst eo12
        obtain ⟨Ao13, co13, eo13⟩ := Kd.R_slice HO_6.out
        subst eo13
        go_wp2
        repeat (go_quiet (fail); try go_wp2)
        go_meet
        case rel => exact ⟨_, (decide (x7_1 < (t159.length : Int))), (by first | rfl | (simp; done) | (simp [*]; done)), H', ⟨by have := HK1.out; first | omega | exact Nat.le_refl _⟩, ⟨by (with_reducible repeat (first | apply Kd.R_alloc | apply Kd.R_drewN | apply Kd.R_drew)); exact HO_5.out⟩, ⟨by (with_reducible repeat (first | apply Kd.R_alloc | apply Kd.R_drewN | apply Kd.R_drew)); exact HO_6.out⟩, ⟨by repeat (first | (with_reducible first | exact HB.out | apply below_alloc | apply pw_below_drewN | apply below_drew1) | exact HB.out)⟩⟩
       ·
        rw [if_neg c11] at H
        have c11b0 : decide (x7_1 < (t156.length : Int)) = false := decide_eq_false c11
        clear c11
        (first | rw [c11b0] | (simp only [i64_w, i32_w]; rw [c11b0]) | skip)
        have H' := Aside0.mk H
        clear H
        obtain ⟨Ao14, co14, eo14⟩ := Kd.R_slice HO_5.out
        subst eo14
        go_wp2
        repeat (go_quiet (fail); try go_wp2)
        go_meet
        case rel => exact ⟨_, (false), (by first | rfl | (simp; done) | (simp [*]; done)), H', ⟨by have := HK1.out; first | omega | exact Nat.le_refl _⟩, ⟨by (with_reducible repeat (first | apply Kd.R_alloc | apply Kd.R_drewN | apply Kd.R_drew)); exact HO_5.out⟩, ⟨by (with_reducible repeat (first | apply Kd.R_alloc | apply Kd.R_drewN | apply Kd.R_drew)); exact HO_6.out⟩, ⟨by repeat (first | (with_reducible first | exact HB.out | apply below_alloc | apply pw_below_drewN | apply below_drew1) | exact HB.out)⟩⟩
      case rest =>
       clear HC10
       try clear c1
       try clear p2
       try clear c3
       try clear c3b0
       try clear c3b1
       try clear c4
       try clear c4b0
       try clear c4b1
       try clear c5
       try clear c5b0
       try clear c5b1
       try clear c8
       try clear c11
       try clear c11b0
       try clear p2
       obtain ⟨kq, x32_9, rfl, HA, HJ9, HO_5, HO_6, HB⟩ := hcut
       cases kq with
       | zero => exact absurd HA.out (by simp [spec_ComparePre.j1])
       | succ kj9 =>
        have H := HA.out
        clear HA
        simp only [spec_ComparePre.j1] at H
        by_cases c15 : x32_9 = true
        ·
         subst c15
         have H1 : (if 0 ≤ x7_1 then (if x7_1 < (t156.length : Int) then (if x7_1 < (t159.length : Int) then ((spec_ComparePart.f kj9 (rdOf ByteArray.empty t156 x7_1) (rdOf ByteArray.empty t159 x7_1)).bind fun t164 => (if t164 = 0 then (spec_ComparePre.l0 kj9 t156 t159 (wrap64 (x7_1 + 1))) else (some t164))) else (none)) else (none)) else (none)) = some r := by rw [if_pos rfl] at H; exact H
         clear H
         have H := H1
         clear H1
         by_cases c16 : 0 ≤ x7_1
         ·
          rw [if_pos c16] at H
          have c16b0 : decide (0 ≤ x7_1) = true := decide_eq_true c16
          clear c16
          by_cases c17 : x7_1 < (t156.length : Int)
          ·
           rw [if_pos c17] at H
           have c17b0 : decide (x7_1 < (t156.length : Int)) = true := decide_eq_true c17
           clear c17
           by_cases c18 : x7_1 < (t159.length : Int)
           ·
            rw [if_pos c18] at H
            have c18b0 : decide (x7_1 < (t159.length : Int)) = true := decide_eq_true c18
            clear c18
            replace H := Option.bind_eq_some_iff.mp H
            obtain ⟨t164, A190, H⟩ := H
            replace H : (if t164 = 0 then (spec_ComparePre.l0 kj9 t156 t159 (wrap64 (x7_1 + 1))) else (some t164)) = some r := H
            have A19 := Aside0.mk A190
            clear A190
            by_cases c20 : t164 = 0
            ·
             rw [if_pos c20] at H
             have c20b0 : (t164 == 0) = true := beq_iff_eq.mpr c20
             have c20b1 : (t164 != 0) = false := bne_eq_false_iff_eq.mpr c20
             clear c20
             have H' := Aside0.mk H
             clear H
             obtain ⟨Ao21, co21, eo21⟩ := Kd.R_slice HO_5.out
             subst eo21
             have p162 : 0 ≤ (x7_1 : Int) := of_decide_eq_true (by first | (with_reducible assumption) | assumption)
             have q162 : x7_1 < (t156.length : Int) := of_decide_eq_true (by first | (with_reducible assumption) | assumption)
             obtain ⟨ad162, e162, hx162_0⟩ := Kd.at_string (Kd.R_reads' HO_5.out).2.2 x7_1 p162 q162
             cases e162
             replace p162 := eq_true p162
             replace q162 := eq_true q162
             obtain ⟨Ao22, co22, eo22⟩ := Kd.R_slice HO_6.out
             subst eo22
             have p163 : 0 ≤ (x7_1 : Int) := of_decide_eq_true (by first | (with_reducible assumption) | assumption)
             have q163 : x7_1 < (t159.length : Int) := of_decide_eq_true (by first | (with_reducible assumption) | assumption)
             obtain ⟨ad163, e163, hx163_0⟩ := Kd.at_string (Kd.R_reads' HO_6.out).2.2 x7_1 p163 q163
             cases e163
             replace p163 := eq_true p163
             replace q163 := eq_true q163
             go_wp2_with (first | (go_at_call 106; (with_reducible refine (spec_ComparePart.calls kj9 (rdOf ByteArray.empty t156 x7_1) (rdOf ByteArray.empty t159 x7_1) t164 _ A19.out).mono ?_); rintro e w' ⟨rfl, ⟨nd, rfl⟩⟩; (try first | exact ⟨rfl, _, World.drewN_drewN _ _ _⟩ | exact ⟨rfl, _, Eq.trans (World.drewN_drewN _ _ _) (congrArg (World.drewN _) (Nat.add_assoc _ _ _))⟩)))
             repeat (go_quiet (first | (go_at_call 106; (with_reducible refine (spec_ComparePart.calls kj9 (rdOf ByteArray.empty t156 x7_1) (rdOf ByteArray.empty t159 x7_1) t164 _ A19.out).mono ?_); rintro e w' ⟨rfl, ⟨nd, rfl⟩⟩; (try first | exact ⟨rfl, _, World.drewN_drewN _ _ _⟩ | exact ⟨rfl, _, Eq.trans (World.drewN_drewN _ _ _) (congrArg (World.drewN _) (Nat.add_assoc _ _ _))⟩))); try go_wp2_with (first | (go_at_call 106; (with_reducible refine (spec_ComparePart.calls kj9 (rdOf ByteArray.empty t156 x7_1) (rdOf ByteArray.empty t159 x7_1) t164 _ A19.out).mono ?_); rintro e w' ⟨rfl, ⟨nd, rfl⟩⟩; (try first | exact ⟨rfl, _, World.drewN_drewN _ _ _⟩ | exact ⟨rfl, _, Eq.trans (World.drewN_drewN _ _ _) (congrArg (World.drewN _) (Nat.add_assoc _ _ _))⟩))))
             go_roundg kj9
             case measure => have := HK1.out; have := HJ9.out; omega
             case rel => exact ⟨(wrap64 (x7_1 + 1)), (by first | rfl | (simp; done) | (simp [*]; done)), H', ⟨by have := HK1.out; have := HJ9.out; omega⟩, ⟨by (with_reducible repeat (first | apply Kd.R_alloc | apply Kd.R_drewN | apply Kd.R_drew)); exact HO_5.out⟩, ⟨by (with_reducible repeat (first | apply Kd.R_alloc | apply Kd.R_drewN | apply Kd.R_drew)); exact HO_6.out⟩, ⟨by repeat (first | (with_reducible first | exact HB.out | apply below_alloc | apply pw_below_drewN | apply below_drew1) | exact HB.out)⟩⟩
            ·
             rw [if_neg c20] at H
             have c20b0 : (t164 == 0) = false := beq_eq_false_iff_ne.mpr c20
             have c20b1 : (t164 != 0) = true := bne_iff_ne.mpr c20
             obtain rfl := Option.some.inj H
             obtain ⟨Ao23, co23, eo23⟩ := Kd.R_slice HO_5.out
             subst eo23
             have p162 : 0 ≤ (x7_1 : Int) := of_decide_eq_true (by first | (with_reducible assumption) | assumption)
             have q162 : x7_1 < (t156.length : Int) := of_decide_eq_true (by first | (with_reducible assumption) | assumption)
             obtain ⟨ad162, e162, hx162_0⟩ := Kd.at_string (Kd.R_reads' HO_5.out).2.2 x7_1 p162 q162
             cases e162
             replace p162 := eq_true p162
             replace q162 := eq_true q162
             obtain ⟨Ao24, co24, eo24⟩ := Kd.R_slice HO_6.out
             subst eo24
             have p163 : 0 ≤ (x7_1 : Int) := of_decide_eq_true (by first | (with_reducible assumption) | assumption)
             have q163 : x7_1 < (t159.length : Int) := of_decide_eq_true (by first | (with_reducible assumption) | assumption)
             obtain ⟨ad163, e163, hx163_0⟩ := Kd.at_string (Kd.R_reads' HO_6.out).2.2 x7_1 p163 q163
             cases e163
             replace p163 := eq_true p163
             replace q163 := eq_true q163
             go_wp2_with (first | (go_at_call 106; (with_reducible refine (spec_ComparePart.calls kj9 (rdOf ByteArray.empty t156 x7_1) (rdOf ByteArray.empty t159 x7_1) t164 _ A19.out).mono ?_); rintro e w' ⟨rfl, ⟨nd, rfl⟩⟩; (try first | exact ⟨rfl, _, World.drewN_drewN _ _ _⟩ | exact ⟨rfl, _, Eq.trans (World.drewN_drewN _ _ _) (congrArg (World.drewN _) (Nat.add_assoc _ _ _))⟩)))
             repeat (go_quiet (first | (go_at_call 106; (with_reducible refine (spec_ComparePart.calls kj9 (rdOf ByteArray.empty t156 x7_1) (rdOf ByteArray.empty t159 x7_1) t164 _ A19.out).mono ?_); rintro e w' ⟨rfl, ⟨nd, rfl⟩⟩; (try first | exact ⟨rfl, _, World.drewN_drewN _ _ _⟩ | exact ⟨rfl, _, Eq.trans (World.drewN_drewN _ _ _) (congrArg (World.drewN _) (Nat.add_assoc _ _ _))⟩))); try go_wp2_with (first | (go_at_call 106; (with_reducible refine (spec_ComparePart.calls kj9 (rdOf ByteArray.empty t156 x7_1) (rdOf ByteArray.empty t159 x7_1) t164 _ A19.out).mono ?_); rintro e w' ⟨rfl, ⟨nd, rfl⟩⟩; (try first | exact ⟨rfl, _, World.drewN_drewN _ _ _⟩ | exact ⟨rfl, _, Eq.trans (World.drewN_drewN _ _ _) (congrArg (World.drewN _) (Nat.add_assoc _ _ _))⟩))))
             go_ret
             exact ⟨by first | rfl | (simp [errW_none, errW_some] <;> rfl) | (simp [*, errW_none, errW_some] <;> rfl) | (simp [bneNil]; done), by repeat (first | (with_reducible first | exact HB.out | apply below_alloc | apply pw_below_drewN | apply below_drew1) | exact HB.out)⟩
           ·
            rw [if_neg c18] at H
            exact absurd H (by simp)
          ·
           rw [if_neg c17] at H
           exact absurd H (by simp)
         ·
          rw [if_neg c16] at H
          exact absurd H (by simp)
        ·
         replace c15 := Bool.eq_false_iff.mpr c15
         subst c15
         have H1 : ((spec_order.f (IntKind.u64.wrap ((t156.length : Int))) (IntKind.u64.wrap ((t159.length : Int)))).bind fun t165 => (some t165)) = some r := by rw [if_neg (show ¬ (false = true) by decide)] at H; exact H
         clear H
         have H := H1
         clear H1
         replace H := Option.bind_eq_some_iff.mp H
         obtain ⟨t165, A250, H⟩ := H
         replace H : (some t165) = some r := H
         have A25 := Aside0.mk A250
         clear A250
         obtain rfl := Option.some.inj H
         obtain ⟨Ao26, co26, eo26⟩ := Kd.R_slice HO_5.out
         subst eo26
         obtain ⟨Ao27, co27, eo27⟩ := Kd.R_slice HO_6.out
         subst eo27
         go_wp2_with (first | (go_at_call 71; (with_reducible refine (spec_order.calls (IntKind.u64.wrap ((t156.length : Int))) (IntKind.u64.wrap ((t159.length : Int))) t165 _ A25.out).mono ?_); rintro e w' ⟨rfl, ⟨nd, rfl⟩⟩; (try first | exact ⟨rfl, _, World.drewN_drewN _ _ _⟩ | exact ⟨rfl, _, Eq.trans (World.drewN_drewN _ _ _) (congrArg (World.drewN _) (Nat.add_assoc _ _ _))⟩)))
         repeat (go_quiet (first | (go_at_call 71; (with_reducible refine (spec_order.calls (IntKind.u64.wrap ((t156.length : Int))) (IntKind.u64.wrap ((t159.length : Int))) t165 _ A25.out).mono ?_); rintro e w' ⟨rfl, ⟨nd, rfl⟩⟩; (try first | exact ⟨rfl, _, World.drewN_drewN _ _ _⟩ | exact ⟨rfl, _, Eq.trans (World.drewN_drewN _ _ _) (congrArg (World.drewN _) (Nat.add_assoc _ _ _))⟩))); try go_wp2_with (first | (go_at_call 71; (with_reducible refine (spec_order.calls (IntKind.u64.wrap ((t156.length : Int))) (IntKind.u64.wrap ((t159.length : Int))) t165 _ A25.out).mono ?_); rintro e w' ⟨rfl, ⟨nd, rfl⟩⟩; (try first | exact ⟨rfl, _, World.drewN_drewN _ _ _⟩ | exact ⟨rfl, _, Eq.trans (World.drewN_drewN _ _ _) (congrArg (World.drewN _) (Nat.add_assoc _ _ _))⟩))))
         go_ret
         exact ⟨by first | rfl | (simp [errW_none, errW_some] <;> rfl) | (simp [*, errW_none, errW_some] <;> rfl) | (simp [bneNil]; done), by repeat (first | (with_reducible first | exact HB.out | apply below_alloc | apply pw_below_drewN | apply below_drew1) | exact HB.out)⟩

def spec_tildeNumbers.f (a0_0 : Int) (a0_1 : Int) (a0_2 : Int) (a0_3 : Int) (a0_4 : Int) (a0_5 : ByteArray) : Option (Int) := some (mn 2 a0_1)

set_option maxHeartbeats 80000000 in
set_option maxRecDepth 100000 in
theorem spec_tildeNumbers.calls (a0_0 : Int) (a0_1 : Int) (a0_2 : Int) (a0_3 : Int) (a0_4 : Int) (a0_5 : ByteArray) (r : Int) (w : World) (h : spec_tildeNumbers.f a0_0 a0_1 a0_2 a0_3 a0_4 a0_5 = some r) :
    Calls Tryd.prog 58 #[.agg #[.int .i64 a0_0, .int .i64 a0_1, .int .u64 a0_2, .int .u64 a0_3, .int .u64 a0_4, .string a0_5]] w fun e w' => e = .returned (.int .i64 r) ∧ Below w.heap.size w w' := by
  have hu24 := Tryd.underlying24
  have HB := Aside0.mk (Below.refl w.heap.size w)
  have H : (some (mn 2 a0_1)) = some r := h
  clear h
  obtain ⟨ji2, hji2⟩ : ∃ j_ : Int, (mn 2 a0_1) = j_ := ⟨_, rfl⟩
  replace H : (some ji2) = some r := by first | (rw [hji2] at H; exact H) | (simp only [hji2] at H ⊢; exact H)
  (try (have hji2h : ji2 ≤ 2 := by (rw [← hji2]; unfold mn; (repeat' split) <;> omega)))
  (try (have hji2g : ji2 ≤ 64 := by omega))
  have hji2_ : (if a0_1 < 2 then a0_1 else 2) = ji2 := hji2
  obtain rfl := Option.some.inj H
  go_enter Tryd.func58, Tryd.ntmps58
  go_wp2_with (first | ((with_reducible refine gate_dst (N := 1) rfl ?_); refine box_event ?hg (N := 1) ?hd (cs := #[.int .i64 a0_0, .int .i64 a0_1, .int .u64 a0_2, .int .u64 a0_3, .int .u64 a0_4, .string a0_5]) (t := 24) ?hr ?_; (case hd => rfl); (case hg => rfl); (case hr => first | (go_simp; done) | (go_simp; rfl) | (go_simp; simp [u8w]; done)); intro gb170 hg w3 hbox hb; have n0_ := Aside0.mk (below_step (by repeat (first | (with_reducible first | exact HB.out | apply below_alloc | apply pw_below_drewN | apply below_drew1) | exact HB.out)) hb); have n1_ := Aside0.mk (hbox); have n2_ := Aside0.mk ((by rw [hg]; exact (below_size (by repeat (first | (with_reducible first | exact HB.out | apply below_alloc | apply pw_below_drewN | apply below_drew1) | exact HB.out))) : w.heap.size ≤ gb170)); have n3_ := Aside0.mk ((by rw [hg]; exact (below_size (by repeat (first | (with_reducible first | exact HB.out | apply below_alloc | apply pw_below_drewN | apply below_drew1) | exact HB.out))) : w.heap.size ≤ gb170)); clear HB; have HB := n0_; have BK170 := n1_; have GW170 := n2_; have GE170 := n3_; clear n0_ n1_ n2_ n3_; clear hb hbox hg; have hcz4_0 : w3.cell? ⟨gb170, 0, none⟩ = some (.int .i64 a0_0) := (blk_cell BK170.out 0).trans rfl; have hcz4_1 : w3.cell? ⟨gb170, 1, none⟩ = some (.int .i64 a0_1) := (blk_cell BK170.out 1).trans rfl; have hcz4_2 : w3.cell? ⟨gb170, 2, none⟩ = some (.int .u64 a0_2) := (blk_cell BK170.out 2).trans rfl; have hcz4_3 : w3.cell? ⟨gb170, 3, none⟩ = some (.int .u64 a0_3) := (blk_cell BK170.out 3).trans rfl; have hcz4_4 : w3.cell? ⟨gb170, 4, none⟩ = some (.int .u64 a0_4) := (blk_cell BK170.out 4).trans rfl; have hcz4_5 : w3.cell? ⟨gb170, 5, none⟩ = some (.string a0_5) := (blk_cell BK170.out 5).trans rfl; have hfz4_0 := blk_frozen BK170.out 0; have hfz4_1 := blk_frozen BK170.out 1; have hfz4_2 := blk_frozen BK170.out 2; have hfz4_3 := blk_frozen BK170.out 3; have hfz4_4 := blk_frozen BK170.out 4; have hfz4_5 := blk_frozen BK170.out 5))
  go_ret
  exact ⟨by first | rfl | (simp [errW_none, errW_some] <;> rfl) | (simp only [← hji2]; first | rfl | (simp [errW_none, errW_some] <;> rfl)) | (simp [*, errW_none, errW_some] <;> rfl) | (simp [bneNil]; done), by repeat (first | (with_reducible first | exact HB.out | apply below_alloc | apply pw_below_drewN | apply below_drew1 | refine below_set ?_ GE170.out) | exact HB.out)⟩

def spec_caretNumbers.l0 : Nat → List Int → Int → Int → Int → Int → Int → Int → Int → ByteArray → Option (Int)
  | 0, _, _, _, _, _, _, _, _, _ => none
  | k + 1, x11, x12, x13, x172000, x172001, x172002, x172003, x172004, x172005 => if x13 < x12 then (if 0 ≤ x13 then (if x13 < (x11.length : Int) then (if (rd x11 x13) = 0 then (spec_caretNumbers.l0 k x11 x12 (wrap64 (x13 + 1)) x172000 x172001 x172002 x172003 x172004 x172005) else (some (wrap64 (x13 + 1)))) else (none)) else (none)) else (some x172001)

def spec_caretNumbers.f (k : Nat) (a0_0 : Int) (a0_1 : Int) (a0_2 : Int) (a0_3 : Int) (a0_4 : Int) (a0_5 : ByteArray) : Option (Int) := (some (([a0_2, a0_3, a0_4] : List Int) : List Int)).bind fun y172 => (spec_caretNumbers.l0 k y172 (y172.length : Int) 0 a0_0 a0_1 a0_2 a0_3 a0_4 a0_5)

set_option maxHeartbeats 80000000 in
set_option maxRecDepth 100000 in
theorem spec_caretNumbers.calls (k : Nat) (a0_0 : Int) (a0_1 : Int) (a0_2 : Int) (a0_3 : Int) (a0_4 : Int) (a0_5 : ByteArray) (r : Int) (w : World) (h : spec_caretNumbers.f k a0_0 a0_1 a0_2 a0_3 a0_4 a0_5 = some r) :
  Calls Tryd.prog 59 #[.agg #[.int .i64 a0_0, .int .i64 a0_1, .int .u64 a0_2, .int .u64 a0_3, .int .u64 a0_4, .string a0_5]] w fun e w' => e = .returned (.int .i64 r) ∧ Below w.heap.size w w' := by
 have hu24 := Tryd.underlying24
 have HB := Aside0.mk (Below.refl w.heap.size w)
 have H : ((some (([a0_2, a0_3, a0_4] : List Int) : List Int)).bind fun y172 => (spec_caretNumbers.l0 k y172 (y172.length : Int) 0 a0_0 a0_1 a0_2 a0_3 a0_4 a0_5)) = some r := h
 clear h
 obtain ⟨y172, hy172⟩ : ∃ y_ : List Int, y_ = (([a0_2, a0_3, a0_4] : List Int)) := ⟨_, rfl⟩
 replace H : (spec_caretNumbers.l0 k y172 (y172.length : Int) 0 a0_0 a0_1 a0_2 a0_3 a0_4 a0_5) = some r := by first | (rw [hy172]; with_reducible exact H) | (have H2_ := (Option.bind_some _ _).symm.trans H; rw [hy172]; with_reducible exact H2_) | (have H2_ := (Option.bind_some _ _).symm.trans H; with_reducible exact H2_) | with_reducible exact H | (rw [hy172]; exact H) | exact H
 have Ny172 := Aside0.mk hy172
 clear hy172
 have H' := Aside0.mk H
 clear H
 go_enter Tryd.func59, Tryd.ntmps59
 go_wp2_with (first | ((with_reducible refine gate_dst (N := 1) rfl ?_); refine box_event ?hg (N := 1) ?hd (cs := #[.int .i64 a0_0, .int .i64 a0_1, .int .u64 a0_2, .int .u64 a0_3, .int .u64 a0_4, .string a0_5]) (t := 24) ?hr ?_; (case hd => rfl); (case hg => rfl); (case hr => first | (go_simp; done) | (go_simp; rfl) | (go_simp; simp [u8w]; done)); intro gb171 hg w2 hbox hb; have n0_ := Aside0.mk (below_step (by repeat (first | (with_reducible first | exact HB.out | apply below_alloc | apply pw_below_drewN | apply below_drew1) | exact HB.out)) hb); have n1_ := Aside0.mk (hbox); have n2_ := Aside0.mk ((by rw [hg]; exact (below_size (by repeat (first | (with_reducible first | exact HB.out | apply below_alloc | apply pw_below_drewN | apply below_drew1) | exact HB.out))) : w.heap.size ≤ gb171)); have n3_ := Aside0.mk ((by rw [hg]; exact (below_size (by repeat (first | (with_reducible first | exact HB.out | apply below_alloc | apply pw_below_drewN | apply below_drew1) | exact HB.out))) : w.heap.size ≤ gb171)); clear HB; have HB := n0_; have BK171 := n1_; have GW171 := n2_; have GE171 := n3_; clear n0_ n1_ n2_ n3_; clear hb hbox hg; have hcz3_0 : w2.cell? ⟨gb171, 0, none⟩ = some (.int .i64 a0_0) := (blk_cell BK171.out 0).trans rfl; have hcz3_1 : w2.cell? ⟨gb171, 1, none⟩ = some (.int .i64 a0_1) := (blk_cell BK171.out 1).trans rfl; have hcz3_2 : w2.cell? ⟨gb171, 2, none⟩ = some (.int .u64 a0_2) := (blk_cell BK171.out 2).trans rfl; have hcz3_3 : w2.cell? ⟨gb171, 3, none⟩ = some (.int .u64 a0_3) := (blk_cell BK171.out 3).trans rfl; have hcz3_4 : w2.cell? ⟨gb171, 4, none⟩ = some (.int .u64 a0_4) := (blk_cell BK171.out 4).trans rfl; have hcz3_5 : w2.cell? ⟨gb171, 5, none⟩ = some (.string a0_5) := (blk_cell BK171.out 5).trans rfl; have hfz3_0 := blk_frozen BK171.out 0; have hfz3_1 := blk_frozen BK171.out 1; have hfz3_2 := blk_frozen BK171.out 2; have hfz3_3 := blk_frozen BK171.out 3; have hfz3_4 := blk_frozen BK171.out 4; have hfz3_5 := blk_frozen BK171.out 5) | ((with_reducible refine gate_dst (N := 11) rfl ?_); refine Kd.R_lit (Kd.int .u64) _ 22 ?hg (N := 11) ?hd (xs := ([a0_2, a0_3, a0_4] : List Int)) (inner := [.int .u64 a0_2, .int .u64 a0_3, .int .u64 a0_4]) (ok := fun _ => True) (okp := fun _ => True) ?hr ?hp (fun _ hk => hk) trivial (Below.refl _ _) (Nat.le_refl _) (by simp) ?_; (case hd => rfl); (case hg => rfl); (case hr => first | (go_simp; done) | (go_simp; rfl) | (go_simp; simp [u8w]; done)); (case hp => exact (Reps.one (show Kd.M (Kd.int .u64) _ _ _ a0_2 [.int .u64 a0_2] from rfl) (Reps.one (show Kd.M (Kd.int .u64) _ _ _ a0_3 [.int .u64 a0_3] from rfl) (Reps.one (show Kd.M (Kd.int .u64) _ _ _ a0_4 [.int .u64 a0_4] from rfl) (Reps.none _ _))))); intro v173 w4 ho5 hb hg_ hnew_; clear hg_ hnew_; (first | rw [← Ny172.out] at ho5 | (simp only [Int.reduceToNat] at ho5; rw [← Ny172.out] at ho5)); have n0_ := Aside0.mk (Kd.R_lower ho5 (below_size (by repeat (first | (with_reducible first | exact HB.out | apply below_alloc | apply pw_below_drewN | apply below_drew1 | refine below_set ?_ GE171.out) | exact HB.out)))); have n1_ := Aside0.mk (blk_below (g := gb171) (o := .cells #[.int .i64 a0_0, .int .i64 a0_1, .int .u64 a0_2, .int .u64 a0_3, .int .u64 a0_4, .string a0_5] 24 (0, 0)) (by (with_reducible repeat (first | refine blk_drewN ?_ _ | refine blk_drew ?_ | refine blk_alloc ?_ _)); exact BK171.out) hb); have n2_ := Aside0.mk (below_step (by repeat (first | (with_reducible first | exact HB.out | apply below_alloc | apply pw_below_drewN | apply below_drew1 | refine below_set ?_ GE171.out) | exact HB.out)) hb); clear BK171; clear HB; have HO174 := n0_; have BK171 := n1_; have HB := n2_; clear n0_ n1_ n2_; clear hb ho5; obtain ⟨Ao6, co6, eo6⟩ := Kd.R_slice HO174.out; subst eo6))
 go_loopg [13] k (fun kq v13 w' => ∃ (x13_1 : Int), v13 = .int .i64 x13_1 ∧ Aside0 (spec_caretNumbers.l0 kq y172 (y172.length : Int) x13_1 a0_0 a0_1 a0_2 a0_3 a0_4 a0_5 = some r) ∧ Aside0 (kq ≤ k) ∧ Aside0 (Kd.R (Kd.int .u64) 22 w' w.heap.size (fun _ => True) (.slice Ao6 y172.length co6) y172) ∧ Aside0 (w'.heap[gb171]? = some (.cells #[.int .i64 a0_0, .int .i64 a0_1, .int .u64 a0_2, .int .u64 a0_3, .int .u64 a0_4, .string a0_5] 24 (0, 0))) ∧ Aside0 (Below w.heap.size w w'))
 case atStart => exact ⟨(0), (by first | rfl | (simp; done) | (simp [*]; done)), H', ⟨Nat.le_refl _⟩, ⟨by (with_reducible repeat (first | apply Kd.R_alloc | apply Kd.R_drewN | apply Kd.R_drew)); exact HO174.out⟩, ⟨by (with_reducible repeat (first | refine blk_drewN ?_ _ | refine blk_drew ?_ | refine blk_alloc ?_ _)); exact BK171.out⟩, ⟨by repeat (first | (with_reducible first | exact HB.out | apply below_alloc | apply pw_below_drewN | apply below_drew1 | refine below_set ?_ GE171.out) | exact HB.out)⟩⟩
 case round =>
  clear H'
  try clear p2
  try clear c5
  try clear hcz3_0
  try clear hcz3_1
  try clear hcz3_2
  try clear hcz3_3
  try clear hcz3_4
  try clear hcz3_5
  try clear hfz3_0
  try clear hfz3_1
  try clear hfz3_2
  try clear hfz3_3
  try clear hfz3_4
  try clear hfz3_5
  obtain ⟨x13_1, rfl, HA, HK1, HO_11, BK171, HB⟩ := hrel
  cases gk with
  | zero => exact absurd HA.out (by simp [spec_caretNumbers.l0])
  | succ k1 =>
   have H := HA.out
   clear HA
   simp only [spec_caretNumbers.l0] at H
   by_cases c7 : x13_1 < (y172.length : Int)
   ·
    rw [if_pos c7] at H
    have c7b0 : decide (x13_1 < (y172.length : Int)) = true := decide_eq_true c7
    clear c7
    by_cases c8 : 0 ≤ x13_1
    ·
     rw [if_pos c8] at H
     have c8b0 : decide (0 ≤ x13_1) = true := decide_eq_true c8
     clear c8
     by_cases c9 : x13_1 < (y172.length : Int)
     ·
      rw [if_pos c9] at H
      have c9b0 : decide (x13_1 < (y172.length : Int)) = true := decide_eq_true c9
      clear c9
      by_cases c10 : (rd y172 x13_1) = 0
      ·
       rw [if_pos c10] at H
       have c10b0 : ((rd y172 x13_1) == 0) = true := beq_iff_eq.mpr c10
       have c10b1 : ((rd y172 x13_1) != 0) = false := bne_eq_false_iff_eq.mpr c10
       clear c10
       have H' := Aside0.mk H
       clear H
       have p175 : 0 ≤ (x13_1 : Int) := of_decide_eq_true (by first | (with_reducible assumption) | assumption)
       have q175 : x13_1 < (y172.length : Int) := of_decide_eq_true (by first | (with_reducible assumption) | assumption)
       obtain ⟨ad175, e175, hx175_0⟩ := Kd.at_int (Kd.R_reads' HO_11.out).2.2 x13_1 p175 q175
       cases e175
       replace p175 := eq_true p175
       replace q175 := eq_true q175
       go_wp2
       go_roundg k1
       case measure => have := HK1.out; omega
       case rel => exact ⟨(wrap64 (x13_1 + 1)), (by first | rfl | (simp; done) | (simp [*]; done)), H', ⟨by have := HK1.out; omega⟩, ⟨by (with_reducible repeat (first | apply Kd.R_alloc | apply Kd.R_drewN | apply Kd.R_drew)); exact HO_11.out⟩, ⟨by (with_reducible repeat (first | refine blk_drewN ?_ _ | refine blk_drew ?_ | refine blk_alloc ?_ _)); exact BK171.out⟩, ⟨by repeat (first | (with_reducible first | exact HB.out | apply below_alloc | apply pw_below_drewN | apply below_drew1 | refine below_set ?_ GE171.out) | exact HB.out)⟩⟩
      ·
       rw [if_neg c10] at H
       have c10b0 : ((rd y172 x13_1) == 0) = false := beq_eq_false_iff_ne.mpr c10
       have c10b1 : ((rd y172 x13_1) != 0) = true := bne_iff_ne.mpr c10
       obtain rfl := Option.some.inj H
       have p175 : 0 ≤ (x13_1 : Int) := of_decide_eq_true (by first | (with_reducible assumption) | assumption)
       have q175 : x13_1 < (y172.length : Int) := of_decide_eq_true (by first | (with_reducible assumption) | assumption)
       obtain ⟨ad175, e175, hx175_0⟩ := Kd.at_int (Kd.R_reads' HO_11.out).2.2 x13_1 p175 q175
       cases e175
       replace p175 := eq_true p175
       replace q175 := eq_true q175
       go_wp2
       go_ret
       exact ⟨by first | rfl | (simp [errW_none, errW_some] <;> rfl) | (simp [*, errW_none, errW_some] <;> rfl) | (simp [bneNil]; done), by repeat (first | (with_reducible first | exact HB.out | apply below_alloc | apply pw_below_drewN | apply below_drew1 | refine below_set ?_ GE171.out) | exact HB.out)⟩
     ·
      rw [if_neg c9] at H
      exact absurd H (by simp)
    ·
     rw [if_neg c8] at H
     exact absurd H (by simp)
   ·
    rw [if_neg c7] at H
    have c7b0 : decide (x13_1 < (y172.length : Int)) = false := decide_eq_false c7
    clear c7
    obtain rfl := Option.some.inj H
    have hcz11_0 : wr.cell? ⟨gb171, 0, none⟩ = some (.int .i64 a0_0) := (blk_cell BK171.out 0).trans rfl
    have hcz11_1 : wr.cell? ⟨gb171, 1, none⟩ = some (.int .i64 a0_1) := (blk_cell BK171.out 1).trans rfl
    have hcz11_2 : wr.cell? ⟨gb171, 2, none⟩ = some (.int .u64 a0_2) := (blk_cell BK171.out 2).trans rfl
    have hcz11_3 : wr.cell? ⟨gb171, 3, none⟩ = some (.int .u64 a0_3) := (blk_cell BK171.out 3).trans rfl
    have hcz11_4 : wr.cell? ⟨gb171, 4, none⟩ = some (.int .u64 a0_4) := (blk_cell BK171.out 4).trans rfl
    have hcz11_5 : wr.cell? ⟨gb171, 5, none⟩ = some (.string a0_5) := (blk_cell BK171.out 5).trans rfl
    have hfz11_0 := blk_frozen BK171.out 0
    have hfz11_1 := blk_frozen BK171.out 1
    have hfz11_2 := blk_frozen BK171.out 2
    have hfz11_3 := blk_frozen BK171.out 3
    have hfz11_4 := blk_frozen BK171.out 4
    have hfz11_5 := blk_frozen BK171.out 5
    go_wp2
    go_ret
    exact ⟨by first | rfl | (simp [errW_none, errW_some] <;> rfl) | (simp [*, errW_none, errW_some] <;> rfl) | (simp [bneNil]; done), by repeat (first | (with_reducible first | exact HB.out | apply below_alloc | apply pw_below_drewN | apply below_drew1 | refine below_set ?_ GE171.out) | exact HB.out)⟩

end Go.Proofs.YtllkoadcpobdaaaDoor.PX
namespace Go.Proofs.YtllkoadcpobdaaaDoor.PX

open Go.RowKit Go.Proofs.YtllkoadcpobdaaaDoorW.PrintWords Go.Proofs.YtllkoadcpobdaaaDoorW.PrintLast Go.Proofs.YtllkoadcpobdaaaDoorW.PrintMore

attribute [local go_sem] max2_int min2_int max_two min_two max_three min_three max_four min_four   -- for this text's walks alone

set_option linter.unusedVariables false

set_option linter.unusedSimpArgs false

def semver_zzIndex.l0 : Nat → ByteArray → ByteArray → Int → Option (Int)
  | 0, _, _, _ => none
  | k + 1, x0, x1, x5 => if (wrap64 (x5 + (x1.size : Int))) ≤ (x0.size : Int) then (if 0 ≤ x5 then (if x5 ≤ (wrap64 (x5 + (x1.size : Int))) then (if (x0.extract (x5 : Int).toNat ((wrap64 (x5 + (x1.size : Int))) : Int).toNat).toList = x1.toList then (some x5) else (semver_zzIndex.l0 k x0 x1 (wrap64 (x5 + 1)))) else (none)) else (none)) else (some (-1))

def semver_zzIndex.f (k : Nat) (a0 : ByteArray) (a1 : ByteArray) : Option (Int) := semver_zzIndex.l0 k a0 a1 0

set_option maxHeartbeats 80000000 in
set_option maxRecDepth 100000 in
theorem semver_zzIndex.calls (k : Nat) (a0 : ByteArray) (a1 : ByteArray) (r : Int) (w : World) (h : semver_zzIndex.f k a0 a1 = some r) :
    Calls Tryd.prog 128 #[.string a0, .string a1] w fun e w' => e = .returned (.int .i64 r) ∧ Drawn0 w w' := by
  have H : (semver_zzIndex.l0 k a0 a1 0) = some r := h
  clear h
  have H' := Aside0.mk H
  clear H
  go_enter Tryd.func128, Tryd.ntmps128
  go_wp2
  go_loopg [5] k (fun kq v5 w' => ∃ (x5_1 : Int), v5 = .int .i64 x5_1 ∧ Aside0 (semver_zzIndex.l0 kq a0 a1 x5_1 = some r) ∧ Aside0 (kq ≤ k) ∧ Drawn0 w w')
  case atStart => exact ⟨(0), (by first | rfl | (simp; done) | (simp [*]; done)), H', ⟨Nat.le_refl _⟩, by repeat (first | exact Drawn0.refl _ | apply Drawn0.step)⟩
  case round =>
    clear H'
    try clear c1
    try clear p2
    obtain ⟨x5_1, rfl, HA, HK1, ⟨m1, rfl⟩⟩ := hrel
    cases gk with
    | zero => exact absurd HA.out (by simp [semver_zzIndex.l0])
    | succ k1 =>
      have H := HA.out
      clear HA
      simp only [semver_zzIndex.l0] at H
      by_cases c3 : (wrap64 (x5_1 + (a1.size : Int))) ≤ (a0.size : Int)
      · rw [if_pos c3] at H
        have c3b0 : decide ((wrap64 (x5_1 + (a1.size : Int))) ≤ (a0.size : Int)) = true := decide_eq_true c3
        clear c3
        by_cases c4 : 0 ≤ x5_1
        · rw [if_pos c4] at H
          have c4b0 := eq_true c4
          have c4b1 : decide (0 ≤ x5_1) = true := decide_eq_true c4
          clear c4
          by_cases c5 : x5_1 ≤ (wrap64 (x5_1 + (a1.size : Int)))
          · rw [if_pos c5] at H
            have c5b0 := eq_true c5
            have c5b1 : decide (x5_1 ≤ (wrap64 (x5_1 + (a1.size : Int)))) = true := decide_eq_true c5
            have c6b0 := eq_true (of_decide_eq_true (by first | (with_reducible assumption) | assumption) : (wrap64 (x5_1 + (a1.size : Int))) ≤ (a0.size : Int))
            by_cases c7 : (a0.extract (x5_1 : Int).toNat ((wrap64 (x5_1 + (a1.size : Int))) : Int).toNat).toList = a1.toList
            · rw [if_pos c7] at H
              have c7b0 : ((a0.extract (x5_1 : Int).toNat ((wrap64 (x5_1 + (a1.size : Int))) : Int).toNat).toList == a1.toList) = true := beq_iff_eq.mpr c7
              have c7b1 : ((a0.extract (x5_1 : Int).toNat ((wrap64 (x5_1 + (a1.size : Int))) : Int).toNat).toList != a1.toList) = false := bne_eq_false_iff_eq.mpr c7
              clear c7
              obtain rfl := Option.some.inj H
              go_wp2
              go_ret
              exact ⟨by first | rfl | (simp; done) | (simp [*]; done) | (simp [bneNil]; done), by repeat (first | exact Drawn0.refl _ | apply Drawn0.step)⟩
            · rw [if_neg c7] at H
              have c7b0 : ((a0.extract (x5_1 : Int).toNat ((wrap64 (x5_1 + (a1.size : Int))) : Int).toNat).toList == a1.toList) = false := beq_eq_false_iff_ne.mpr c7
              have c7b1 : ((a0.extract (x5_1 : Int).toNat ((wrap64 (x5_1 + (a1.size : Int))) : Int).toNat).toList != a1.toList) = true := bne_iff_ne.mpr c7
              have H' := Aside0.mk H
              clear H
              go_wp2
              go_roundg k1
              case measure => have := HK1.out; omega
              case rel => exact ⟨(wrap64 (x5_1 + 1)), (by first | rfl | (simp; done) | (simp [*]; done)), H', ⟨by have := HK1.out; omega⟩, by repeat (first | exact Drawn0.refl _ | apply Drawn0.step)⟩
          · rw [if_neg c5] at H
            exact absurd H (by simp)
        · rw [if_neg c4] at H
          exact absurd H (by simp)
      · rw [if_neg c3] at H
        have c3b0 : decide ((wrap64 (x5_1 + (a1.size : Int))) ≤ (a0.size : Int)) = false := decide_eq_false c3
        clear c3
        obtain rfl := Option.some.inj H
        go_wp2
        go_ret
        exact ⟨by first | rfl | (simp; done) | (simp [*]; done) | (simp [bneNil]; done), by repeat (first | exact Drawn0.refl _ | apply Drawn0.step)⟩

def semver_zzSplit.l0 : Nat → ByteArray → ByteArray → List ByteArray → Option (List ByteArray)
  | 0, _, _, _ => none
  | k + 1, x0, x1, x5 => (semver_zzIndex.f k x0 x1).bind fun t564 => (if t564 < 0 then (if x5.length < 8796093022208 then (some (x5 ++ [x0])) else (none)) else (if 0 ≤ t564 then (if t564 ≤ (x0.size : Int) then (if x5.length < 8796093022208 then (if 0 ≤ (wrap64 (t564 + (x1.size : Int))) then (if (wrap64 (t564 + (x1.size : Int))) ≤ (x0.size : Int) then (semver_zzSplit.l0 k (x0.extract ((wrap64 (t564 + (x1.size : Int))) : Int).toNat x0.size) x1 (x5 ++ [x0.extract 0 (t564 : Int).toNat])) else (none)) else (none)) else (none)) else (none)) else (none)))

def semver_zzSplit.f (k : Nat) (a0 : ByteArray) (a1 : ByteArray) : Option (List ByteArray) := semver_zzSplit.l0 k a0 a1 ([] : List ByteArray)

set_option maxHeartbeats 80000000 in
set_option maxRecDepth 100000 in
theorem semver_zzSplit.calls (k : Nat) (a0 : ByteArray) (a1 : ByteArray) (r : List ByteArray) (w : World) (h : semver_zzSplit.f k a0 a1 = some r) :
  Calls Tryd.prog 121 #[.string a0, .string a1] w fun e w' => ∃ v0_ : Value, e = .returned (v0_) ∧ Kd.R Kd.string 9 w' w.heap.size (fun _ => True) v0_ r ∧ Below w.heap.size w w' := by
 have HB := Aside0.mk (Below.refl w.heap.size w)
 have H : (semver_zzSplit.l0 k a0 a1 ([] : List ByteArray)) = some r := h
 clear h
 have H' := Aside0.mk H
 clear H
 go_enter Tryd.func121, Tryd.ntmps121
 go_wp2
 go_loopg [0, 5] k (fun kq v0 v5 w' => ∃ (x0_1 : ByteArray) (x5_1 : List ByteArray), v0 = .string x0_1 ∧ Aside0 (semver_zzSplit.l0 kq x0_1 a1 x5_1 = some r) ∧ Aside0 (kq ≤ k) ∧ Aside0 (Kd.R Kd.string 9 w' w.heap.size (fun _ => True) v5 x5_1) ∧ Aside0 (Below w.heap.size w w'))
 case atStart => exact ⟨(a0), (([] : List ByteArray)), (by first | rfl | (simp; done) | (simp [*]; done)), H', ⟨Nat.le_refl _⟩, ⟨by first | exact Kd.R_nil _ _ _ _ _ | exact Kd.N_nil _ _ _ _ _ | exact Kd.V_nil _ _ _ _ _ | exact Kd.Q_nil _ _ _ _ _ | exact Kd.S_nil _ _ _ _ _⟩, ⟨by repeat (first | (with_reducible first | exact HB.out | apply below_alloc | apply pw_below_drewN | apply below_drew1) | exact HB.out)⟩⟩
 case round =>
  clear H'
  try clear c1
  try clear p2
  obtain ⟨x0_1, x5_1, rfl, HA, HK1, HO_5, HB⟩ := hrel
  cases gk with
  | zero => exact absurd HA.out (by simp [semver_zzSplit.l0])
  | succ k1 =>
   have H := HA.out
   clear HA
   simp only [semver_zzSplit.l0] at H
   replace H := Option.bind_eq_some_iff.mp H
   obtain ⟨t564, A30, H⟩ := H
   replace H : (if t564 < 0 then (if x5_1.length < 8796093022208 then (some (x5_1 ++ [x0_1])) else (none)) else (if 0 ≤ t564 then (if t564 ≤ (x0_1.size : Int) then (if x5_1.length < 8796093022208 then (if 0 ≤ (wrap64 (t564 + (a1.size : Int))) then (if (wrap64 (t564 + (a1.size : Int))) ≤ (x0_1.size : Int) then (semver_zzSplit.l0 k1 (x0_1.extract ((wrap64 (t564 + (a1.size : Int))) : Int).toNat x0_1.size) a1 (x5_1 ++ [x0_1.extract 0 (t564 : Int).toNat])) else (none)) else (none)) else (none)) else (none)) else (none))) = some r := H
   have A3 := Aside0.mk A30
   clear A30
   by_cases c4 : t564 < 0
   ·
    rw [if_pos c4] at H
    have c4b0 : decide (t564 < 0) = true := decide_eq_true c4
    clear c4
    by_cases c5 : x5_1.length < 8796093022208
    ·
     rw [if_pos c5] at H
     have LMc5 := Aside0.mk c5
     clear c5
     obtain ⟨y565, hy565⟩ : ∃ y_ : List ByteArray, y_ = (x5_1 ++ [x0_1]) := ⟨_, rfl⟩
     replace H : (some y565) = some r := by first | (rw [hy565]; with_reducible exact H) | (have H2_ := (Option.bind_some _ _).symm.trans H; rw [hy565]; with_reducible exact H2_) | (have H2_ := (Option.bind_some _ _).symm.trans H; with_reducible exact H2_) | with_reducible exact H | (rw [hy565]; exact H) | exact H
     have Ny565 := Aside0.mk hy565
     clear hy565
     obtain rfl := Option.some.inj H
     go_wp2_with (first | ((with_reducible refine gate_callee (f := 128) rfl ?_); refine goesL_ (some 9) rfl rfl Tryd.func128 (by kernel_rfl) rfl #[.string x0_1, .string a1] rfl (by (try simp only [List.map_toArray, List.map_cons, List.map_nil]); first | done | rfl | (simp only [List.length_drop, List.length_take]; rfl)) ?_; (with_reducible refine (semver_zzIndex.calls k1 x0_1 a1 t564 _ A3.out).mono ?_); rintro e w' ⟨rfl, ⟨nd, rfl⟩⟩; refine ⟨_, rfl, ?_⟩) | ((with_reducible refine gate_builtin (b := .append) (xs := #[.tmp 12, .tmp 14]) rfl ?_); at_builtin; refine Kd.R_append Kd.string (w0 := w) w.heap.size rfl (.tmp 12) (.tmp 14) 92 9 (.string ⟨#[]⟩) 16 rfl Tryd.underlying92 info9 rfl (by decide) (by omega) u5 x5_1 x0_1 [.string x0_1] (fun _ => True) (fun _ => False) rfl rfl ?aP (fun _ hk => hk.elim) ?aF ?aO ?aB ?aS ?aL ?_; (case aP => exact rfl); (case aB => exact (by repeat (first | (with_reducible first | exact HB.out | apply below_alloc | apply pw_below_drewN | apply below_drew1) | exact HB.out))); (case aF => exact (fun _ _ => trivial)); (case aO => exact (by (with_reducible repeat (first | apply Kd.R_alloc | apply Kd.R_drewN | apply Kd.R_drew)); exact HO_5.out)); (case aS => exact (below_size (by repeat (first | (with_reducible first | exact HB.out | apply below_alloc | apply pw_below_drewN | apply below_drew1) | exact HB.out)))); (case aL => have := LMc5.out; omega); intro v566 w6 ho hb hg hat; rw [← Ny565.out] at ho; have n0_ := Aside0.mk (hb); have n1_ := Aside0.mk (ho); clear HB; clear HO_5; have HB := n0_; have HO567 := n1_; clear n0_ n1_; clear ho hb hg hat))
     go_ret
     exact ⟨_, by first | rfl | (simp [errW_none, errW_some] <;> rfl) | (simp [*, errW_none, errW_some] <;> rfl), by (with_reducible repeat (first | apply Kd.R_alloc | apply Kd.R_drewN | apply Kd.R_drew)); exact HO567.out, by repeat (first | (with_reducible first | exact HB.out | apply below_alloc | apply pw_below_drewN | apply below_drew1) | exact HB.out)⟩
    ·
     rw [if_neg c5] at H
     exact absurd H (by simp)
   ·
    rw [if_neg c4] at H
    have c4b0 : decide (t564 < 0) = false := decide_eq_false c4
    clear c4
    by_cases c7 : 0 ≤ t564
    ·
     rw [if_pos c7] at H
     have c7b0 := eq_true c7
     have c7b1 : decide (0 ≤ t564) = true := decide_eq_true c7
     clear c7
     by_cases c8 : t564 ≤ (x0_1.size : Int)
     ·
      rw [if_pos c8] at H
      have c8b0 := eq_true c8
      have c8b1 : decide (t564 ≤ (x0_1.size : Int)) = true := decide_eq_true c8
      clear c8
      by_cases c9 : x5_1.length < 8796093022208
      ·
       rw [if_pos c9] at H
       have LMc9 := Aside0.mk c9
       clear c9
       obtain ⟨y568, hy568⟩ : ∃ y_ : List ByteArray, y_ = (x5_1 ++ [x0_1.extract 0 (t564 : Int).toNat]) := ⟨_, rfl⟩
       replace H : (if 0 ≤ (wrap64 (t564 + (a1.size : Int))) then (if (wrap64 (t564 + (a1.size : Int))) ≤ (x0_1.size : Int) then (semver_zzSplit.l0 k1 (x0_1.extract ((wrap64 (t564 + (a1.size : Int))) : Int).toNat x0_1.size) a1 y568) else (none)) else (none)) = some r := by first | (rw [hy568]; with_reducible exact H) | (have H2_ := (Option.bind_some _ _).symm.trans H; rw [hy568]; with_reducible exact H2_) | (have H2_ := (Option.bind_some _ _).symm.trans H; with_reducible exact H2_) | with_reducible exact H | (rw [hy568]; exact H) | exact H
       have Ny568 := Aside0.mk hy568
       clear hy568
       obtain ⟨ji10, hji10⟩ : ∃ j_ : Int, (wrap64 (t564 + (a1.size : Int))) = j_ := ⟨_, rfl⟩
       replace H : (if 0 ≤ (ji10) then (if (ji10) ≤ (x0_1.size : Int) then (semver_zzSplit.l0 k1 (x0_1.extract ((ji10) : Int).toNat x0_1.size) a1 y568) else (none)) else (none)) = some r := by first | (rw [hji10] at H; exact H) | (simp only [hji10] at H ⊢; exact H)
       (try rw [hji10] at A3)
       have hji10w : (IntKind.i64.wrap (t564 + (a1.size : Int))) = ji10 := (i64_w _).trans hji10
       by_cases c11 : 0 ≤ (ji10)
       ·
        rw [if_pos c11] at H
        have c11b0 := eq_true c11
        have c11b1 : decide (0 ≤ (ji10)) = true := decide_eq_true c11
        clear c11
        by_cases c12 : (ji10) ≤ (x0_1.size : Int)
        ·
         rw [if_pos c12] at H
         have c12b0 := eq_true c12
         have c12b1 : decide ((ji10) ≤ (x0_1.size : Int)) = true := decide_eq_true c12
         clear c12
         have H' := Aside0.mk H
         clear H
         go_wp2_with (first | ((with_reducible refine gate_callee (f := 128) rfl ?_); refine goesL_ (some 9) rfl rfl Tryd.func128 (by kernel_rfl) rfl #[.string x0_1, .string a1] rfl (by (try simp only [List.map_toArray, List.map_cons, List.map_nil]); first | done | rfl | (simp only [List.length_drop, List.length_take]; rfl)) ?_; (with_reducible refine (semver_zzIndex.calls k1 x0_1 a1 t564 _ A3.out).mono ?_); rintro e w' ⟨rfl, ⟨nd, rfl⟩⟩; refine ⟨_, rfl, ?_⟩) | ((with_reducible refine gate_builtin (b := .append) (xs := #[.tmp 16, .tmp 20]) rfl ?_); at_builtin; refine Kd.R_append Kd.string (w0 := w) w.heap.size rfl (.tmp 16) (.tmp 20) 92 9 (.string ⟨#[]⟩) 16 rfl Tryd.underlying92 info9 rfl (by decide) (by omega) u5 x5_1 (x0_1.extract 0 (t564 : Int).toNat) [.string (x0_1.extract 0 (t564 : Int).toNat)] (fun _ => True) (fun _ => False) rfl rfl ?aP (fun _ hk => hk.elim) ?aF ?aO ?aB ?aS ?aL ?_; (case aP => exact rfl); (case aB => exact (by repeat (first | (with_reducible first | exact HB.out | apply below_alloc | apply pw_below_drewN | apply below_drew1) | exact HB.out))); (case aF => exact (fun _ _ => trivial)); (case aO => exact (by (with_reducible repeat (first | apply Kd.R_alloc | apply Kd.R_drewN | apply Kd.R_drew)); exact HO_5.out)); (case aS => exact (below_size (by repeat (first | (with_reducible first | exact HB.out | apply below_alloc | apply pw_below_drewN | apply below_drew1) | exact HB.out)))); (case aL => have := LMc9.out; omega); intro v569 w13 ho hb hg hat; rw [← Ny568.out] at ho; have n0_ := Aside0.mk (hb); have n1_ := Aside0.mk (ho); clear HB; clear HO_5; have HB := n0_; have HO570 := n1_; clear n0_ n1_; clear ho hb hg hat))
         go_roundg k1
         case measure => have := HK1.out; omega
         case rel => exact ⟨(x0_1.extract ((ji10) : Int).toNat x0_1.size), (y568), (by first | rfl | (simp; done) | (simp only [← hji10] <;> (first | rfl | simp)) | (simp [*]; done)), H', ⟨by have := HK1.out; omega⟩, ⟨by (with_reducible repeat (first | apply Kd.R_alloc | apply Kd.R_drewN | apply Kd.R_drew)); exact HO570.out⟩, ⟨by repeat (first | (with_reducible first | exact HB.out | apply below_alloc | apply pw_below_drewN | apply below_drew1) | exact HB.out)⟩⟩
        ·
         rw [if_neg c12] at H
         exact absurd H (by simp)
       ·
        rw [if_neg c11] at H
        exact absurd H (by simp)
      ·
       rw [if_neg c9] at H
       exact absurd H (by simp)
     ·
      rw [if_neg c8] at H
      exact absurd H (by simp)
    ·
     rw [if_neg c7] at H
     exact absurd H (by simp)

def semver_compareSegment.f (a0 : Int) (a1 : Int) : Option (Int) := if a0 < a1 then (some (-1)) else (if a0 > a1 then (some 1) else (some 0))

set_option maxHeartbeats 80000000 in
set_option maxRecDepth 100000 in
theorem semver_compareSegment.calls (a0 : Int) (a1 : Int) (r : Int) (w : World) (h : semver_compareSegment.f a0 a1 = some r) :
    Calls Tryd.prog 107 #[.int .u64 a0, .int .u64 a1] w fun e w' => e = .returned (.int .i64 r) ∧ Drawn0 w w' := by
  have H : (if a0 < a1 then (some (-1)) else (if a0 > a1 then (some 1) else (some 0))) = some r := h
  clear h
  by_cases c3 : a0 < a1
  · rw [if_pos c3] at H
    have c3b0 : decide (a0 < a1) = true := decide_eq_true c3
    clear c3
    obtain rfl := Option.some.inj H
    go_enter Tryd.func107, Tryd.ntmps107
    go_wp2
    go_ret
    exact ⟨by first | rfl | (simp; done) | (simp [*]; done) | (simp [bneNil]; done), by repeat (first | exact Drawn0.refl _ | apply Drawn0.step)⟩
  · rw [if_neg c3] at H
    have c3b0 : decide (a0 < a1) = false := decide_eq_false c3
    clear c3
    by_cases c4 : a0 > a1
    · rw [if_pos c4] at H
      have c4b0 : decide (a1 < a0) = true := decide_eq_true c4
      clear c4
      obtain rfl := Option.some.inj H
      go_enter Tryd.func107, Tryd.ntmps107
      go_wp2
      go_ret
      exact ⟨by first | rfl | (simp; done) | (simp [*]; done) | (simp [bneNil]; done), by repeat (first | exact Drawn0.refl _ | apply Drawn0.step)⟩
    · rw [if_neg c4] at H
      have c4b0 : decide (a1 < a0) = false := decide_eq_false c4
      clear c4
      obtain rfl := Option.some.inj H
      go_enter Tryd.func107, Tryd.ntmps107
      go_wp2
      go_ret
      exact ⟨by first | rfl | (simp; done) | (simp [*]; done) | (simp [bneNil]; done), by repeat (first | exact Drawn0.refl _ | apply Drawn0.step)⟩

def semver_Version_Major.f (a0_0 : Int) (a0_1 : Int) (a0_2 : Int) (a0_3 : ByteArray) (a0_4 : ByteArray) (a0_5 : ByteArray) : Option (Int) := some a0_0

set_option maxHeartbeats 80000000 in
set_option maxRecDepth 100000 in
theorem semver_Version_Major.calls (a0_0 : Int) (a0_1 : Int) (a0_2 : Int) (a0_3 : ByteArray) (a0_4 : ByteArray) (a0_5 : ByteArray) (r : Int) (w : World) (h : semver_Version_Major.f a0_0 a0_1 a0_2 a0_3 a0_4 a0_5 = some r) :
    Calls Tryd.prog 94 #[.agg #[.int .u64 a0_0, .int .u64 a0_1, .int .u64 a0_2, .string a0_3, .string a0_4, .string a0_5]] w fun e w' => e = .returned (.int .u64 r) ∧ Below w.heap.size w w' := by
  have hu106 := Tryd.underlying106
  have HB := Aside0.mk (Below.refl w.heap.size w)
  have H : (some a0_0) = some r := h
  clear h
  obtain rfl := Option.some.inj H
  go_enter Tryd.func94, Tryd.ntmps94
  go_wp2_with (first | ((with_reducible refine gate_dst (N := 1) rfl ?_); refine box_event ?hg (N := 1) ?hd (cs := #[.int .u64 a0_0, .int .u64 a0_1, .int .u64 a0_2, .string a0_3, .string a0_4, .string a0_5]) (t := 106) ?hr ?_; (case hd => rfl); (case hg => rfl); (case hr => first | (go_simp; done) | (go_simp; rfl) | (go_simp; simp [u8w]; done)); intro gb571 hg w2 hbox hb; have n0_ := Aside0.mk (below_step (by repeat (first | (with_reducible first | exact HB.out | apply below_alloc | apply pw_below_drewN | apply below_drew1) | exact HB.out)) hb); have n1_ := Aside0.mk (hbox); have n2_ := Aside0.mk ((by rw [hg]; exact (below_size (by repeat (first | (with_reducible first | exact HB.out | apply below_alloc | apply pw_below_drewN | apply below_drew1) | exact HB.out))) : w.heap.size ≤ gb571)); have n3_ := Aside0.mk ((by rw [hg]; exact (below_size (by repeat (first | (with_reducible first | exact HB.out | apply below_alloc | apply pw_below_drewN | apply below_drew1) | exact HB.out))) : w.heap.size ≤ gb571)); clear HB; have HB := n0_; have BK571 := n1_; have GW571 := n2_; have GE571 := n3_; clear n0_ n1_ n2_ n3_; clear hb hbox hg; have hcz3_0 : w2.cell? ⟨gb571, 0, none⟩ = some (.int .u64 a0_0) := (blk_cell BK571.out 0).trans rfl; have hcz3_1 : w2.cell? ⟨gb571, 1, none⟩ = some (.int .u64 a0_1) := (blk_cell BK571.out 1).trans rfl; have hcz3_2 : w2.cell? ⟨gb571, 2, none⟩ = some (.int .u64 a0_2) := (blk_cell BK571.out 2).trans rfl; have hcz3_3 : w2.cell? ⟨gb571, 3, none⟩ = some (.string a0_3) := (blk_cell BK571.out 3).trans rfl; have hcz3_4 : w2.cell? ⟨gb571, 4, none⟩ = some (.string a0_4) := (blk_cell BK571.out 4).trans rfl; have hcz3_5 : w2.cell? ⟨gb571, 5, none⟩ = some (.string a0_5) := (blk_cell BK571.out 5).trans rfl; have hfz3_0 := blk_frozen BK571.out 0; have hfz3_1 := blk_frozen BK571.out 1; have hfz3_2 := blk_frozen BK571.out 2; have hfz3_3 := blk_frozen BK571.out 3; have hfz3_4 := blk_frozen BK571.out 4; have hfz3_5 := blk_frozen BK571.out 5))
  go_ret
  exact ⟨by first | rfl | (simp [errW_none, errW_some] <;> rfl) | (simp [*, errW_none, errW_some] <;> rfl) | (simp [bneNil]; done), by repeat (first | (with_reducible first | exact HB.out | apply below_alloc | apply pw_below_drewN | apply below_drew1 | refine below_set ?_ GE571.out) | exact HB.out)⟩

def semver_Version_Minor.f (a0_0 : Int) (a0_1 : Int) (a0_2 : Int) (a0_3 : ByteArray) (a0_4 : ByteArray) (a0_5 : ByteArray) : Option (Int) := some a0_1

set_option maxHeartbeats 80000000 in
set_option maxRecDepth 100000 in
theorem semver_Version_Minor.calls (a0_0 : Int) (a0_1 : Int) (a0_2 : Int) (a0_3 : ByteArray) (a0_4 : ByteArray) (a0_5 : ByteArray) (r : Int) (w : World) (h : semver_Version_Minor.f a0_0 a0_1 a0_2 a0_3 a0_4 a0_5 = some r) :
    Calls Tryd.prog 95 #[.agg #[.int .u64 a0_0, .int .u64 a0_1, .int .u64 a0_2, .string a0_3, .string a0_4, .string a0_5]] w fun e w' => e = .returned (.int .u64 r) ∧ Below w.heap.size w w' := by
  have hu106 := Tryd.underlying106
  have HB := Aside0.mk (Below.refl w.heap.size w)
  have H : (some a0_1) = some r := h
  clear h
  obtain rfl := Option.some.inj H
  go_enter Tryd.func95, Tryd.ntmps95
  go_wp2_with (first | ((with_reducible refine gate_dst (N := 1) rfl ?_); refine box_event ?hg (N := 1) ?hd (cs := #[.int .u64 a0_0, .int .u64 a0_1, .int .u64 a0_2, .string a0_3, .string a0_4, .string a0_5]) (t := 106) ?hr ?_; (case hd => rfl); (case hg => rfl); (case hr => first | (go_simp; done) | (go_simp; rfl) | (go_simp; simp [u8w]; done)); intro gb572 hg w2 hbox hb; have n0_ := Aside0.mk (below_step (by repeat (first | (with_reducible first | exact HB.out | apply below_alloc | apply pw_below_drewN | apply below_drew1) | exact HB.out)) hb); have n1_ := Aside0.mk (hbox); have n2_ := Aside0.mk ((by rw [hg]; exact (below_size (by repeat (first | (with_reducible first | exact HB.out | apply below_alloc | apply pw_below_drewN | apply below_drew1) | exact HB.out))) : w.heap.size ≤ gb572)); have n3_ := Aside0.mk ((by rw [hg]; exact (below_size (by repeat (first | (with_reducible first | exact HB.out | apply below_alloc | apply pw_below_drewN | apply below_drew1) | exact HB.out))) : w.heap.size ≤ gb572)); clear HB; have HB := n0_; have BK572 := n1_; have GW572 := n2_; have GE572 := n3_; clear n0_ n1_ n2_ n3_; clear hb hbox hg; have hcz3_0 : w2.cell? ⟨gb572, 0, none⟩ = some (.int .u64 a0_0) := (blk_cell BK572.out 0).trans rfl; have hcz3_1 : w2.cell? ⟨gb572, 1, none⟩ = some (.int .u64 a0_1) := (blk_cell BK572.out 1).trans rfl; have hcz3_2 : w2.cell? ⟨gb572, 2, none⟩ = some (.int .u64 a0_2) := (blk_cell BK572.out 2).trans rfl; have hcz3_3 : w2.cell? ⟨gb572, 3, none⟩ = some (.string a0_3) := (blk_cell BK572.out 3).trans rfl; have hcz3_4 : w2.cell? ⟨gb572, 4, none⟩ = some (.string a0_4) := (blk_cell BK572.out 4).trans rfl; have hcz3_5 : w2.cell? ⟨gb572, 5, none⟩ = some (.string a0_5) := (blk_cell BK572.out 5).trans rfl; have hfz3_0 := blk_frozen BK572.out 0; have hfz3_1 := blk_frozen BK572.out 1; have hfz3_2 := blk_frozen BK572.out 2; have hfz3_3 := blk_frozen BK572.out 3; have hfz3_4 := blk_frozen BK572.out 4; have hfz3_5 := blk_frozen BK572.out 5))
  go_ret
  exact ⟨by first | rfl | (simp [errW_none, errW_some] <;> rfl) | (simp [*, errW_none, errW_some] <;> rfl) | (simp [bneNil]; done), by repeat (first | (with_reducible first | exact HB.out | apply below_alloc | apply pw_below_drewN | apply below_drew1 | refine below_set ?_ GE572.out) | exact HB.out)⟩

def semver_Version_Patch.f (a0_0 : Int) (a0_1 : Int) (a0_2 : Int) (a0_3 : ByteArray) (a0_4 : ByteArray) (a0_5 : ByteArray) : Option (Int) := some a0_2

set_option maxHeartbeats 80000000 in
set_option maxRecDepth 100000 in
theorem semver_Version_Patch.calls (a0_0 : Int) (a0_1 : Int) (a0_2 : Int) (a0_3 : ByteArray) (a0_4 : ByteArray) (a0_5 : ByteArray) (r : Int) (w : World) (h : semver_Version_Patch.f a0_0 a0_1 a0_2 a0_3 a0_4 a0_5 = some r) :
    Calls Tryd.prog 96 #[.agg #[.int .u64 a0_0, .int .u64 a0_1, .int .u64 a0_2, .string a0_3, .string a0_4, .string a0_5]] w fun e w' => e = .returned (.int .u64 r) ∧ Below w.heap.size w w' := by
  have hu106 := Tryd.underlying106
  have HB := Aside0.mk (Below.refl w.heap.size w)
  have H : (some a0_2) = some r := h
  clear h
  obtain rfl := Option.some.inj H
  go_enter Tryd.func96, Tryd.ntmps96
  go_wp2_with (first | ((with_reducible refine gate_dst (N := 1) rfl ?_); refine box_event ?hg (N := 1) ?hd (cs := #[.int .u64 a0_0, .int .u64 a0_1, .int .u64 a0_2, .string a0_3, .string a0_4, .string a0_5]) (t := 106) ?hr ?_; (case hd => rfl); (case hg => rfl); (case hr => first | (go_simp; done) | (go_simp; rfl) | (go_simp; simp [u8w]; done)); intro gb573 hg w2 hbox hb; have n0_ := Aside0.mk (below_step (by repeat (first | (with_reducible first | exact HB.out | apply below_alloc | apply pw_below_drewN | apply below_drew1) | exact HB.out)) hb); have n1_ := Aside0.mk (hbox); have n2_ := Aside0.mk ((by rw [hg]; exact (below_size (by repeat (first | (with_reducible first | exact HB.out | apply below_alloc | apply pw_below_drewN | apply below_drew1) | exact HB.out))) : w.heap.size ≤ gb573)); have n3_ := Aside0.mk ((by rw [hg]; exact (below_size (by repeat (first | (with_reducible first | exact HB.out | apply below_alloc | apply pw_below_drewN | apply below_drew1) | exact HB.out))) : w.heap.size ≤ gb573)); clear HB; have HB := n0_; have BK573 := n1_; have GW573 := n2_; have GE573 := n3_; clear n0_ n1_ n2_ n3_; clear hb hbox hg; have hcz3_0 : w2.cell? ⟨gb573, 0, none⟩ = some (.int .u64 a0_0) := (blk_cell BK573.out 0).trans rfl; have hcz3_1 : w2.cell? ⟨gb573, 1, none⟩ = some (.int .u64 a0_1) := (blk_cell BK573.out 1).trans rfl; have hcz3_2 : w2.cell? ⟨gb573, 2, none⟩ = some (.int .u64 a0_2) := (blk_cell BK573.out 2).trans rfl; have hcz3_3 : w2.cell? ⟨gb573, 3, none⟩ = some (.string a0_3) := (blk_cell BK573.out 3).trans rfl; have hcz3_4 : w2.cell? ⟨gb573, 4, none⟩ = some (.string a0_4) := (blk_cell BK573.out 4).trans rfl; have hcz3_5 : w2.cell? ⟨gb573, 5, none⟩ = some (.string a0_5) := (blk_cell BK573.out 5).trans rfl; have hfz3_0 := blk_frozen BK573.out 0; have hfz3_1 := blk_frozen BK573.out 1; have hfz3_2 := blk_frozen BK573.out 2; have hfz3_3 := blk_frozen BK573.out 3; have hfz3_4 := blk_frozen BK573.out 4; have hfz3_5 := blk_frozen BK573.out 5))
  go_ret
  exact ⟨by first | rfl | (simp [errW_none, errW_some] <;> rfl) | (simp [*, errW_none, errW_some] <;> rfl) | (simp [bneNil]; done), by repeat (first | (with_reducible first | exact HB.out | apply below_alloc | apply pw_below_drewN | apply below_drew1 | refine below_set ?_ GE573.out) | exact HB.out)⟩

def semver_Version_Prerelease.f (a0_0 : Int) (a0_1 : Int) (a0_2 : Int) (a0_3 : ByteArray) (a0_4 : ByteArray) (a0_5 : ByteArray) : Option (ByteArray) := some a0_3

set_option maxHeartbeats 80000000 in
set_option maxRecDepth 100000 in
theorem semver_Version_Prerelease.calls (a0_0 : Int) (a0_1 : Int) (a0_2 : Int) (a0_3 : ByteArray) (a0_4 : ByteArray) (a0_5 : ByteArray) (r : ByteArray) (w : World) (h : semver_Version_Prerelease.f a0_0 a0_1 a0_2 a0_3 a0_4 a0_5 = some r) :
    Calls Tryd.prog 97 #[.agg #[.int .u64 a0_0, .int .u64 a0_1, .int .u64 a0_2, .string a0_3, .string a0_4, .string a0_5]] w fun e w' => e = .returned (.string r) ∧ Below w.heap.size w w' := by
  have hu106 := Tryd.underlying106
  have HB := Aside0.mk (Below.refl w.heap.size w)
  have H : (some a0_3) = some r := h
  clear h
  obtain rfl := Option.some.inj H
  go_enter Tryd.func97, Tryd.ntmps97
  go_wp2_with (first | ((with_reducible refine gate_dst (N := 1) rfl ?_); refine box_event ?hg (N := 1) ?hd (cs := #[.int .u64 a0_0, .int .u64 a0_1, .int .u64 a0_2, .string a0_3, .string a0_4, .string a0_5]) (t := 106) ?hr ?_; (case hd => rfl); (case hg => rfl); (case hr => first | (go_simp; done) | (go_simp; rfl) | (go_simp; simp [u8w]; done)); intro gb574 hg w2 hbox hb; have n0_ := Aside0.mk (below_step (by repeat (first | (with_reducible first | exact HB.out | apply below_alloc | apply pw_below_drewN | apply below_drew1) | exact HB.out)) hb); have n1_ := Aside0.mk (hbox); have n2_ := Aside0.mk ((by rw [hg]; exact (below_size (by repeat (first | (with_reducible first | exact HB.out | apply below_alloc | apply pw_below_drewN | apply below_drew1) | exact HB.out))) : w.heap.size ≤ gb574)); have n3_ := Aside0.mk ((by rw [hg]; exact (below_size (by repeat (first | (with_reducible first | exact HB.out | apply below_alloc | apply pw_below_drewN | apply below_drew1) | exact HB.out))) : w.heap.size ≤ gb574)); clear HB; have HB := n0_; have BK574 := n1_; have GW574 := n2_; have GE574 := n3_; clear n0_ n1_ n2_ n3_; clear hb hbox hg; have hcz3_0 : w2.cell? ⟨gb574, 0, none⟩ = some (.int .u64 a0_0) := (blk_cell BK574.out 0).trans rfl; have hcz3_1 : w2.cell? ⟨gb574, 1, none⟩ = some (.int .u64 a0_1) := (blk_cell BK574.out 1).trans rfl; have hcz3_2 : w2.cell? ⟨gb574, 2, none⟩ = some (.int .u64 a0_2) := (blk_cell BK574.out 2).trans rfl; have hcz3_3 : w2.cell? ⟨gb574, 3, none⟩ = some (.string a0_3) := (blk_cell BK574.out 3).trans rfl; have hcz3_4 : w2.cell? ⟨gb574, 4, none⟩ = some (.string a0_4) := (blk_cell BK574.out 4).trans rfl; have hcz3_5 : w2.cell? ⟨gb574, 5, none⟩ = some (.string a0_5) := (blk_cell BK574.out 5).trans rfl; have hfz3_0 := blk_frozen BK574.out 0; have hfz3_1 := blk_frozen BK574.out 1; have hfz3_2 := blk_frozen BK574.out 2; have hfz3_3 := blk_frozen BK574.out 3; have hfz3_4 := blk_frozen BK574.out 4; have hfz3_5 := blk_frozen BK574.out 5))
  go_ret
  exact ⟨by first | rfl | (simp [errW_none, errW_some] <;> rfl) | (simp [*, errW_none, errW_some] <;> rfl) | (simp [bneNil]; done), by repeat (first | (with_reducible first | exact HB.out | apply below_alloc | apply pw_below_drewN | apply below_drew1 | refine below_set ?_ GE574.out) | exact HB.out)⟩

def impl_operator.f (a0 : Int) : Option (ByteArray) := if (Go.bits .and .i64 a0 7) = 0 then (some (⟨#[61]⟩ : ByteArray)) else (if (Go.bits .and .i64 a0 7) = 1 then (some (⟨#[33, 61]⟩ : ByteArray)) else (if (Go.bits .and .i64 a0 7) = 2 then (some (⟨#[62]⟩ : ByteArray)) else (if (Go.bits .and .i64 a0 7) = 3 then (some (⟨#[60]⟩ : ByteArray)) else (if (Go.bits .and .i64 a0 7) = 4 then (some (⟨#[62, 61]⟩ : ByteArray)) else (if (Go.bits .and .i64 a0 7) = 5 then (some (⟨#[60, 61]⟩ : ByteArray)) else (if (Go.bits .and .i64 a0 7) = 6 then (some (⟨#[126]⟩ : ByteArray)) else (some (⟨#[94]⟩ : ByteArray))))))))

set_option maxHeartbeats 80000000 in
set_option maxRecDepth 100000 in
theorem impl_operator.calls (a0 : Int) (r : ByteArray) (w : World) (h : impl_operator.f a0 = some r) :
  Calls Tryd.prog 83 #[.int .i64 a0] w fun e w' => e = .returned (.string r) ∧ Drawn0 w w' := by
 have H : (if (Go.bits .and .i64 a0 7) = 0 then (some (⟨#[61]⟩ : ByteArray)) else (if (Go.bits .and .i64 a0 7) = 1 then (some (⟨#[33, 61]⟩ : ByteArray)) else (if (Go.bits .and .i64 a0 7) = 2 then (some (⟨#[62]⟩ : ByteArray)) else (if (Go.bits .and .i64 a0 7) = 3 then (some (⟨#[60]⟩ : ByteArray)) else (if (Go.bits .and .i64 a0 7) = 4 then (some (⟨#[62, 61]⟩ : ByteArray)) else (if (Go.bits .and .i64 a0 7) = 5 then (some (⟨#[60, 61]⟩ : ByteArray)) else (if (Go.bits .and .i64 a0 7) = 6 then (some (⟨#[126]⟩ : ByteArray)) else (some (⟨#[94]⟩ : ByteArray))))))))) = some r := h
 clear h
 by_cases c2 : (Go.bits .and .i64 a0 7) = 0
 ·
  rw [if_pos c2] at H
  have c2b0 : ((Go.bits .and .i64 a0 7) == 0) = true := beq_iff_eq.mpr c2
  have c2b1 : ((Go.bits .and .i64 a0 7) != 0) = false := bne_eq_false_iff_eq.mpr c2
  clear c2
  obtain rfl := Option.some.inj H
  go_enter Tryd.func83, Tryd.ntmps83
  go_wp2
  go_ret
  exact ⟨by first | rfl | (simp; done) | (simp [*]; done) | (simp [bneNil]; done), by repeat (first | exact Drawn0.refl _ | apply Drawn0.step)⟩
 ·
  rw [if_neg c2] at H
  have c2b0 : ((Go.bits .and .i64 a0 7) == 0) = false := beq_eq_false_iff_ne.mpr c2
  have c2b1 : ((Go.bits .and .i64 a0 7) != 0) = true := bne_iff_ne.mpr c2
  by_cases c3 : (Go.bits .and .i64 a0 7) = 1
  ·
   rw [if_pos c3] at H
   have c3b0 : ((Go.bits .and .i64 a0 7) == 1) = true := beq_iff_eq.mpr c3
   have c3b1 : ((Go.bits .and .i64 a0 7) != 1) = false := bne_eq_false_iff_eq.mpr c3
   clear c3
   obtain rfl := Option.some.inj H
   go_enter Tryd.func83, Tryd.ntmps83
   go_wp2
   go_ret
   exact ⟨by first | rfl | (simp; done) | (simp [*]; done) | (simp [bneNil]; done), by repeat (first | exact Drawn0.refl _ | apply Drawn0.step)⟩
  ·
   rw [if_neg c3] at H
   have c3b0 : ((Go.bits .and .i64 a0 7) == 1) = false := beq_eq_false_iff_ne.mpr c3
   have c3b1 : ((Go.bits .and .i64 a0 7) != 1) = true := bne_iff_ne.mpr c3
   by_cases c4 : (Go.bits .and .i64 a0 7) = 2
   ·
    rw [if_pos c4] at H
    have c4b0 : ((Go.bits .and .i64 a0 7) == 2) = true := beq_iff_eq.mpr c4
    have c4b1 : ((Go.bits .and .i64 a0 7) != 2) = false := bne_eq_false_iff_eq.mpr c4
    clear c4
    obtain rfl := Option.some.inj H
    go_enter Tryd.func83, Tryd.ntmps83
    go_wp2
    go_ret
    exact ⟨by first | rfl | (simp; done) | (simp [*]; done) | (simp [bneNil]; done), by repeat (first | exact Drawn0.refl _ | apply Drawn0.step)⟩
   ·
    rw [if_neg c4] at H
    have c4b0 : ((Go.bits .and .i64 a0 7) == 2) = false := beq_eq_false_iff_ne.mpr c4
    have c4b1 : ((Go.bits .and .i64 a0 7) != 2) = true := bne_iff_ne.mpr c4
    by_cases c5 : (Go.bits .and .i64 a0 7) = 3
    ·
     rw [if_pos c5] at H
     have c5b0 : ((Go.bits .and .i64 a0 7) == 3) = true := beq_iff_eq.mpr c5
     have c5b1 : ((Go.bits .and .i64 a0 7) != 3) = false := bne_eq_false_iff_eq.mpr c5
     clear c5
     obtain rfl := Option.some.inj H
     go_enter Tryd.func83, Tryd.ntmps83
     go_wp2
     go_ret
     exact ⟨by first | rfl | (simp; done) | (simp [*]; done) | (simp [bneNil]; done), by repeat (first | exact Drawn0.refl _ | apply Drawn0.step)⟩
    ·
     rw [if_neg c5] at H
     have c5b0 : ((Go.bits .and .i64 a0 7) == 3) = false := beq_eq_false_iff_ne.mpr c5
     have c5b1 : ((Go.bits .and .i64 a0 7) != 3) = true := bne_iff_ne.mpr c5
     by_cases c6 : (Go.bits .and .i64 a0 7) = 4
     ·
      rw [if_pos c6] at H
      have c6b0 : ((Go.bits .and .i64 a0 7) == 4) = true := beq_iff_eq.mpr c6
      have c6b1 : ((Go.bits .and .i64 a0 7) != 4) = false := bne_eq_false_iff_eq.mpr c6
      clear c6
      obtain rfl := Option.some.inj H
      go_enter Tryd.func83, Tryd.ntmps83
      go_wp2
      go_ret
      exact ⟨by first | rfl | (simp; done) | (simp [*]; done) | (simp [bneNil]; done), by repeat (first | exact Drawn0.refl _ | apply Drawn0.step)⟩
     ·
      rw [if_neg c6] at H
      have c6b0 : ((Go.bits .and .i64 a0 7) == 4) = false := beq_eq_false_iff_ne.mpr c6
      have c6b1 : ((Go.bits .and .i64 a0 7) != 4) = true := bne_iff_ne.mpr c6
      by_cases c7 : (Go.bits .and .i64 a0 7) = 5
      ·
       rw [if_pos c7] at H
       have c7b0 : ((Go.bits .and .i64 a0 7) == 5) = true := beq_iff_eq.mpr c7
       have c7b1 : ((Go.bits .and .i64 a0 7) != 5) = false := bne_eq_false_iff_eq.mpr c7
       clear c7
       obtain rfl := Option.some.inj H
       go_enter Tryd.func83, Tryd.ntmps83
       go_wp2
       go_ret
       exact ⟨by first | rfl | (simp; done) | (simp [*]; done) | (simp [bneNil]; done), by repeat (first | exact Drawn0.refl _ | apply Drawn0.step)⟩
      ·
       rw [if_neg c7] at H
       have c7b0 : ((Go.bits .and .i64 a0 7) == 5) = false := beq_eq_false_iff_ne.mpr c7
       have c7b1 : ((Go.bits .and .i64 a0 7) != 5) = true := bne_iff_ne.mpr c7
       by_cases c8 : (Go.bits .and .i64 a0 7) = 6
       ·
        rw [if_pos c8] at H
        have c8b0 : ((Go.bits .and .i64 a0 7) == 6) = true := beq_iff_eq.mpr c8
        have c8b1 : ((Go.bits .and .i64 a0 7) != 6) = false := bne_eq_false_iff_eq.mpr c8
        clear c8
        obtain rfl := Option.some.inj H
        go_enter Tryd.func83, Tryd.ntmps83
        go_wp2
        go_ret
        exact ⟨by first | rfl | (simp; done) | (simp [*]; done) | (simp [bneNil]; done), by repeat (first | exact Drawn0.refl _ | apply Drawn0.step)⟩
       ·
        rw [if_neg c8] at H
        have c8b0 : ((Go.bits .and .i64 a0 7) == 6) = false := beq_eq_false_iff_ne.mpr c8
        have c8b1 : ((Go.bits .and .i64 a0 7) != 6) = true := bne_iff_ne.mpr c8
        obtain rfl := Option.some.inj H
        go_enter Tryd.func83, Tryd.ntmps83
        go_wp2
        go_ret
        exact ⟨by first | rfl | (simp; done) | (simp [*]; done) | (simp [bneNil]; done), by repeat (first | exact Drawn0.refl _ | apply Drawn0.step)⟩

end Go.Proofs.YtllkoadcpobdaaaDoor.PX
