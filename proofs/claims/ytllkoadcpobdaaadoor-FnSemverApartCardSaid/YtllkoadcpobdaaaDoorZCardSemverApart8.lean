/- The row and the tied card of FnSemverApart, out of its printed walk and its plain law. For every input that the statement lets in. -/
import Derived.Test.YtllkoadcpobdaaaDoorZCardSemverApart7
namespace Go.Proofs.YtllkoadcpobdaaaDoor.PX

open Go.RowKit Go.Proofs.YtllkoadcpobdaaaDoorW.PrintWords Go.Proofs.YtllkoadcpobdaaaDoorW.PrintLast Go.Proofs.YtllkoadcpobdaaaDoorW.PrintMore

attribute [local go_sem] max2_int min2_int max_two min_two max_three min_three max_four min_four   -- for this text's walks alone

set_option linter.unusedVariables false

set_option linter.unusedSimpArgs false

set_option maxHeartbeats 80000000 in
set_option maxRecDepth 100000 in
theorem laws_zzFits11.calls (k : Nat) (A0 : Option Addr) (c0 : Nat) (l0 : List (List (S24))) (r : Bool) (w : World) (hr0 : Kd.C (Kd.slice 24 k24) w A0 l0.length l0) (hc0 : l0.length ≤ c0) (h : laws_zzFits11.f k l0 = some r) :
  Calls Tryd.prog 40 #[.slice A0 l0.length c0] w fun e w' => e = .returned (.bool r) ∧ Below w.heap.size w w' := by
 have HR0 := Aside0.mk hr0
 have HC0 := Aside0.mk hc0
 clear hr0 hc0
 have HB := Aside0.mk (Below.refl w.heap.size w)
 have H : (if (l0.length : Int) > 2147483647 then (some false) else (laws_zzFits11.l0 k l0 (l0.length : Int) 0)) = some r := h
 clear h
 by_cases c2 : (l0.length : Int) > 2147483647
 ·
  rw [if_pos c2] at H
  have c2b0 : decide (2147483647 < (l0.length : Int)) = true := decide_eq_true c2
  have c2b1 : decide (2147483647 < l0.length) = true := decide_eq_true (by omega)
  clear c2
  obtain rfl := Option.some.inj H
  go_enter Tryd.func40, Tryd.ntmps40
  go_wp2
  go_ret
  exact ⟨by first | rfl | (simp [errW_none, errW_some] <;> rfl) | (simp [*, errW_none, errW_some] <;> rfl) | (simp [bneNil]; done), by repeat (first | (with_reducible first | exact HB.out | apply below_alloc | apply pw_below_drewN | apply below_drew1) | exact HB.out)⟩
 ·
  rw [if_neg c2] at H
  have c2b0 : decide (2147483647 < (l0.length : Int)) = false := decide_eq_false c2
  have c2b1 : decide (2147483647 < l0.length) = false := decide_eq_false (by omega)
  clear c2
  have H' := Aside0.mk H
  clear H
  go_enter Tryd.func40, Tryd.ntmps40
  go_wp2
  go_loopg [10] k (fun kq v10 w' => ∃ (x10_1 : Int), v10 = .int .i64 x10_1 ∧ Aside0 (laws_zzFits11.l0 kq l0 (l0.length : Int) x10_1 = some r) ∧ Aside0 (kq ≤ k) ∧ Aside0 (Below w.heap.size w w'))
  case atStart => exact ⟨(0), (by first | rfl | (simp; done) | (simp [*]; done)), H', ⟨Nat.le_refl _⟩, ⟨by repeat (first | (with_reducible first | exact HB.out | apply below_alloc | apply pw_below_drewN | apply below_drew1) | exact HB.out)⟩⟩
  case round =>
   clear H'
   try clear c2
   try clear c2b0
   try clear c2b1
   try clear p2
   obtain ⟨x10_1, rfl, HA, HK1, HB⟩ := hrel
   cases gk with
   | zero => exact absurd HA.out (by simp [laws_zzFits11.l0])
   | succ k1 =>
    have H := HA.out
    clear HA
    simp only [laws_zzFits11.l0] at H
    by_cases c3 : x10_1 < (l0.length : Int)
    ·
     rw [if_pos c3] at H
     have c3b0 : decide (x10_1 < (l0.length : Int)) = true := decide_eq_true c3
     clear c3
     by_cases c4 : 0 ≤ x10_1
     ·
      rw [if_pos c4] at H
      have c4b0 : decide (0 ≤ x10_1) = true := decide_eq_true c4
      clear c4
      by_cases c5 : x10_1 < (l0.length : Int)
      ·
       rw [if_pos c5] at H
       have c5b0 : decide (x10_1 < (l0.length : Int)) = true := decide_eq_true c5
       clear c5
       replace H := Option.bind_eq_some_iff.mp H
       obtain ⟨t488, A60, H⟩ := H
       replace H : (if t488 = true then (laws_zzFits11.l0 k1 l0 (l0.length : Int) (wrap64 (x10_1 + 1))) else (some false)) = some r := H
       have A6 := Aside0.mk A60
       clear A60
       by_cases c7 : t488 = true
       ·
        subst c7
        have H1 : (laws_zzFits11.l0 k1 l0 (l0.length : Int) (wrap64 (x10_1 + 1))) = some r := by rw [if_pos rfl] at H; exact H
        clear H
        have H := H1
        clear H1
        have H' := Aside0.mk H
        clear H
        have p487 : 0 ≤ (x10_1 : Int) := of_decide_eq_true (by first | (with_reducible assumption) | assumption)
        have q487 : x10_1 < (l0.length : Int) := of_decide_eq_true (by first | (with_reducible assumption) | assumption)
        obtain ⟨ad487, A487_0, c487_0, e487, hx487_0, hl487_0, hi487_0⟩ := at_L5 HR0.out x10_1 p487 q487
        cases e487
        replace hx487_0 := (HB.out.cell (World.block_lt_of_cell? w _ hx487_0)).trans hx487_0
        have HR487_0 := Aside0.mk hi487_0
        have HC487_0 := Aside0.mk hl487_0
        clear hi487_0 hl487_0
        replace p487 := eq_true p487
        replace q487 := eq_true q487
        go_wp2_with (first | ((with_reducible refine gate_callee (f := 34) rfl ?_); refine goesL_ (some 15) rfl rfl Tryd.func34 (by kernel_rfl) rfl #[.slice A487_0 (rd_L5 l0 x10_1).length c487_0] rfl (by (try simp only [List.map_toArray, List.map_cons, List.map_nil]); first | done | rfl | (simp only [List.length_drop, List.length_take]; rfl)) ?_; (with_reducible refine (laws_zzFits12.calls k1 _ _ (rd_L5 l0 x10_1) true _ ?side1 ?side2 A6.out).mono ?_); (case side1 => repeat (first | exact (Kd.C_below HR487_0.out HB.out) | (with_reducible refine Kd.C_alloc ?_ _) | (with_reducible refine Kd.C_drewN ?_ _) | (with_reducible refine Kd.C_drew ?_))); (case side2 => exact HC487_0.out); rintro e w8 ⟨rfl, hb⟩; refine ⟨_, rfl, ?_⟩; have n0_ := Aside0.mk (below_step (by repeat (first | (with_reducible first | exact HB.out | apply below_alloc | apply pw_below_drewN | apply below_drew1) | exact HB.out)) hb); clear HB; have HB := n0_; clear n0_; (try clear hb); (try clear hb2); (try clear hk); (try clear hi)))
        go_roundg k1
        case measure => have := HK1.out; omega
        case rel => exact ⟨(wrap64 (x10_1 + 1)), (by first | rfl | (simp; done) | (simp [*]; done)), H', ⟨by have := HK1.out; omega⟩, ⟨by repeat (first | (with_reducible first | exact HB.out | apply below_alloc | apply pw_below_drewN | apply below_drew1) | exact HB.out)⟩⟩
       ·
        replace c7 := Bool.eq_false_iff.mpr c7
        subst c7
        have H1 : (some false) = some r := by rw [if_neg (show ¬ (false = true) by decide)] at H; exact H
        clear H
        have H := H1
        clear H1
        obtain rfl := Option.some.inj H
        have p487 : 0 ≤ (x10_1 : Int) := of_decide_eq_true (by first | (with_reducible assumption) | assumption)
        have q487 : x10_1 < (l0.length : Int) := of_decide_eq_true (by first | (with_reducible assumption) | assumption)
        obtain ⟨ad487, A487_0, c487_0, e487, hx487_0, hl487_0, hi487_0⟩ := at_L5 HR0.out x10_1 p487 q487
        cases e487
        replace hx487_0 := (HB.out.cell (World.block_lt_of_cell? w _ hx487_0)).trans hx487_0
        have HR487_0 := Aside0.mk hi487_0
        have HC487_0 := Aside0.mk hl487_0
        clear hi487_0 hl487_0
        replace p487 := eq_true p487
        replace q487 := eq_true q487
        go_wp2_with (first | ((with_reducible refine gate_callee (f := 34) rfl ?_); refine goesL_ (some 15) rfl rfl Tryd.func34 (by kernel_rfl) rfl #[.slice A487_0 (rd_L5 l0 x10_1).length c487_0] rfl (by (try simp only [List.map_toArray, List.map_cons, List.map_nil]); first | done | rfl | (simp only [List.length_drop, List.length_take]; rfl)) ?_; (with_reducible refine (laws_zzFits12.calls k1 _ _ (rd_L5 l0 x10_1) false _ ?side1 ?side2 A6.out).mono ?_); (case side1 => repeat (first | exact (Kd.C_below HR487_0.out HB.out) | (with_reducible refine Kd.C_alloc ?_ _) | (with_reducible refine Kd.C_drewN ?_ _) | (with_reducible refine Kd.C_drew ?_))); (case side2 => exact HC487_0.out); rintro e w9 ⟨rfl, hb⟩; refine ⟨_, rfl, ?_⟩; have n0_ := Aside0.mk (below_step (by repeat (first | (with_reducible first | exact HB.out | apply below_alloc | apply pw_below_drewN | apply below_drew1) | exact HB.out)) hb); clear HB; have HB := n0_; clear n0_; (try clear hb); (try clear hb2); (try clear hk); (try clear hi)))
        go_ret
        exact ⟨by first | rfl | (simp [errW_none, errW_some] <;> rfl) | (simp [*, errW_none, errW_some] <;> rfl) | (simp [bneNil]; done), by repeat (first | (with_reducible first | exact HB.out | apply below_alloc | apply pw_below_drewN | apply below_drew1) | exact HB.out)⟩
      ·
       rw [if_neg c5] at H
       exact absurd H (by simp)
     ·
      rw [if_neg c4] at H
      exact absurd H (by simp)
    ·
     rw [if_neg c3] at H
     have c3b0 : decide (x10_1 < (l0.length : Int)) = false := decide_eq_false c3
     clear c3
     obtain rfl := Option.some.inj H
     go_wp2
     go_ret
     exact ⟨by first | rfl | (simp [errW_none, errW_some] <;> rfl) | (simp [*, errW_none, errW_some] <;> rfl) | (simp [bneNil]; done), by repeat (first | (with_reducible first | exact HB.out | apply below_alloc | apply pw_below_drewN | apply below_drew1) | exact HB.out)⟩

def laws_siGood.l0 : Nat → List (List (List (S24))) → Int → Int → Option (Bool)
  | 0, _, _, _ => none
  | k + 1, x5, x6, x7 => if x7 < x6 then (if 0 ≤ x7 then (if x7 < (x5.length : Int) then ((spec_GoodTerms.f k (rd_L6 x5 x7) 10).bind fun t490 => (if t490 = true then ((laws_scGood.f k (rd_L6 x5 x7)).bind fun t491 => (if t491 = true then (laws_siGood.l0 k x5 x6 (wrap64 (x7 + 1))) else (some false))) else (some false))) else (none)) else (none)) else (some true)

def laws_siGood.f (k : Nat) (l0 : List (List (List (S24)))) : Option (Bool) := laws_siGood.l0 k l0 (l0.length : Int) 0

set_option maxHeartbeats 80000000 in
set_option maxRecDepth 100000 in
theorem laws_siGood.calls (k : Nat) (A0 : Option Addr) (c0 : Nat) (l0 : List (List (List (S24)))) (r : Bool) (w : World) (hr0 : Kd.C (Kd.slice 42 (Kd.slice 24 k24)) w A0 l0.length l0) (hc0 : l0.length ≤ c0) (h : laws_siGood.f k l0 = some r) :
  Calls Tryd.prog 42 #[.slice A0 l0.length c0] w fun e w' => e = .returned (.bool r) ∧ Below w.heap.size w w' := by
 have HR0 := Aside0.mk hr0
 have HC0 := Aside0.mk hc0
 clear hr0 hc0
 have HB := Aside0.mk (Below.refl w.heap.size w)
 have H : (laws_siGood.l0 k l0 (l0.length : Int) 0) = some r := h
 clear h
 have H' := Aside0.mk H
 clear H
 go_enter Tryd.func42, Tryd.ntmps42
 go_wp2
 go_loopg [7] k (fun kq v7 w' => ∃ (x7_1 : Int), v7 = .int .i64 x7_1 ∧ Aside0 (laws_siGood.l0 kq l0 (l0.length : Int) x7_1 = some r) ∧ Aside0 (kq ≤ k) ∧ Aside0 (Below w.heap.size w w'))
 case atStart => exact ⟨(0), (by first | rfl | (simp; done) | (simp [*]; done)), H', ⟨Nat.le_refl _⟩, ⟨by repeat (first | (with_reducible first | exact HB.out | apply below_alloc | apply pw_below_drewN | apply below_drew1) | exact HB.out)⟩⟩
 case round =>
  clear H'
  obtain ⟨x7_1, rfl, HA, HK1, HB⟩ := hrel
  cases gk with
  | zero => exact absurd HA.out (by simp [laws_siGood.l0])
  | succ k1 =>
   have H := HA.out
   clear HA
   simp only [laws_siGood.l0] at H
   by_cases c2 : x7_1 < (l0.length : Int)
   ·
    rw [if_pos c2] at H
    have c2b0 : decide (x7_1 < (l0.length : Int)) = true := decide_eq_true c2
    clear c2
    by_cases c3 : 0 ≤ x7_1
    ·
     rw [if_pos c3] at H
     have c3b0 : decide (0 ≤ x7_1) = true := decide_eq_true c3
     clear c3
     by_cases c4 : x7_1 < (l0.length : Int)
     ·
      rw [if_pos c4] at H
      have c4b0 : decide (x7_1 < (l0.length : Int)) = true := decide_eq_true c4
      clear c4
      replace H := Option.bind_eq_some_iff.mp H
      obtain ⟨t490, A50, H⟩ := H
      replace H : (if t490 = true then ((laws_scGood.f k1 (rd_L6 l0 x7_1)).bind fun t491 => (if t491 = true then (laws_siGood.l0 k1 l0 (l0.length : Int) (wrap64 (x7_1 + 1))) else (some false))) else (some false)) = some r := H
      have A5 := Aside0.mk A50
      clear A50
      by_cases c6 : t490 = true
      ·
       subst c6
       have H1 : ((laws_scGood.f k1 (rd_L6 l0 x7_1)).bind fun t491 => (if t491 = true then (laws_siGood.l0 k1 l0 (l0.length : Int) (wrap64 (x7_1 + 1))) else (some false))) = some r := by rw [if_pos rfl] at H; exact H
       clear H
       have H := H1
       clear H1
       replace H := Option.bind_eq_some_iff.mp H
       obtain ⟨t491, A70, H⟩ := H
       replace H : (if t491 = true then (laws_siGood.l0 k1 l0 (l0.length : Int) (wrap64 (x7_1 + 1))) else (some false)) = some r := H
       have A7 := Aside0.mk A70
       clear A70
       by_cases c8 : t491 = true
       ·
        subst c8
        have H1 : (laws_siGood.l0 k1 l0 (l0.length : Int) (wrap64 (x7_1 + 1))) = some r := by rw [if_pos rfl] at H; exact H
        clear H
        have H := H1
        clear H1
        have H' := Aside0.mk H
        clear H
        have p489 : 0 ≤ (x7_1 : Int) := of_decide_eq_true (by first | (with_reducible assumption) | assumption)
        have q489 : x7_1 < (l0.length : Int) := of_decide_eq_true (by first | (with_reducible assumption) | assumption)
        obtain ⟨ad489, A489_0, c489_0, e489, hx489_0, hl489_0, hi489_0⟩ := at_L6 HR0.out x7_1 p489 q489
        cases e489
        replace hx489_0 := (HB.out.cell (World.block_lt_of_cell? w _ hx489_0)).trans hx489_0
        have HR489_0 := Aside0.mk hi489_0
        have HC489_0 := Aside0.mk hl489_0
        clear hi489_0 hl489_0
        replace p489 := eq_true p489
        replace q489 := eq_true q489
        go_wp2_with (first | ((with_reducible refine gate_callee (f := 72) rfl ?_); refine goesL_ (some 12) rfl rfl Tryd.func72 (by kernel_rfl) rfl #[.slice A489_0 (rd_L6 l0 x7_1).length c489_0, .int .i64 10] rfl (by (try simp only [List.map_toArray, List.map_cons, List.map_nil]); first | done | rfl | (simp only [List.length_drop, List.length_take]; rfl)) ?_; (with_reducible refine (spec_GoodTerms.calls k1 _ _ (rd_L6 l0 x7_1) 10 true _ ?side1 ?side2 A5.out).mono ?_); (case side1 => repeat (first | exact (Kd.C_below HR489_0.out HB.out) | (with_reducible refine Kd.C_alloc ?_ _) | (with_reducible refine Kd.C_drewN ?_ _) | (with_reducible refine Kd.C_drew ?_))); (case side2 => exact HC489_0.out); rintro e w9 ⟨rfl, hb⟩; refine ⟨_, rfl, ?_⟩; have n0_ := Aside0.mk (below_step (by repeat (first | (with_reducible first | exact HB.out | apply below_alloc | apply pw_below_drewN | apply below_drew1) | exact HB.out)) hb); clear HB; have HB := n0_; clear n0_; (try clear hb); (try clear hb2); (try clear hk); (try clear hi)) | (go_at_call 67; (with_reducible refine (laws_scGood.calls k1 _ _ (rd_L6 l0 x7_1) true _ ?side1 ?side2 A7.out).mono ?_); (case side1 => repeat (first | exact (Kd.C_below HR489_0.out HB.out) | (with_reducible refine Kd.C_alloc ?_ _) | (with_reducible refine Kd.C_drewN ?_ _) | (with_reducible refine Kd.C_drew ?_))); (case side2 => exact HC489_0.out); rintro e w10 ⟨rfl, hb⟩; have n0_ := Aside0.mk (below_step (by repeat (first | (with_reducible first | exact HB.out | apply below_alloc | apply pw_below_drewN | apply below_drew1) | exact HB.out)) hb); clear HB; have HB := n0_; clear n0_; (try clear hb); (try clear hb2); (try clear hk); (try clear hi)))
        go_roundg k1
        case measure => have := HK1.out; omega
        case rel => exact ⟨(wrap64 (x7_1 + 1)), (by first | rfl | (simp; done) | (simp [*]; done)), H', ⟨by have := HK1.out; omega⟩, ⟨by repeat (first | (with_reducible first | exact HB.out | apply below_alloc | apply pw_below_drewN | apply below_drew1) | exact HB.out)⟩⟩
       ·
        replace c8 := Bool.eq_false_iff.mpr c8
        subst c8
        have H1 : (some false) = some r := by rw [if_neg (show ¬ (false = true) by decide)] at H; exact H
        clear H
        have H := H1
        clear H1
        obtain rfl := Option.some.inj H
        have p489 : 0 ≤ (x7_1 : Int) := of_decide_eq_true (by first | (with_reducible assumption) | assumption)
        have q489 : x7_1 < (l0.length : Int) := of_decide_eq_true (by first | (with_reducible assumption) | assumption)
        obtain ⟨ad489, A489_0, c489_0, e489, hx489_0, hl489_0, hi489_0⟩ := at_L6 HR0.out x7_1 p489 q489
        cases e489
        replace hx489_0 := (HB.out.cell (World.block_lt_of_cell? w _ hx489_0)).trans hx489_0
        have HR489_0 := Aside0.mk hi489_0
        have HC489_0 := Aside0.mk hl489_0
        clear hi489_0 hl489_0
        replace p489 := eq_true p489
        replace q489 := eq_true q489
        go_wp2_with (first | ((with_reducible refine gate_callee (f := 72) rfl ?_); refine goesL_ (some 12) rfl rfl Tryd.func72 (by kernel_rfl) rfl #[.slice A489_0 (rd_L6 l0 x7_1).length c489_0, .int .i64 10] rfl (by (try simp only [List.map_toArray, List.map_cons, List.map_nil]); first | done | rfl | (simp only [List.length_drop, List.length_take]; rfl)) ?_; (with_reducible refine (spec_GoodTerms.calls k1 _ _ (rd_L6 l0 x7_1) 10 true _ ?side1 ?side2 A5.out).mono ?_); (case side1 => repeat (first | exact (Kd.C_below HR489_0.out HB.out) | (with_reducible refine Kd.C_alloc ?_ _) | (with_reducible refine Kd.C_drewN ?_ _) | (with_reducible refine Kd.C_drew ?_))); (case side2 => exact HC489_0.out); rintro e w11 ⟨rfl, hb⟩; refine ⟨_, rfl, ?_⟩; have n0_ := Aside0.mk (below_step (by repeat (first | (with_reducible first | exact HB.out | apply below_alloc | apply pw_below_drewN | apply below_drew1) | exact HB.out)) hb); clear HB; have HB := n0_; clear n0_; (try clear hb); (try clear hb2); (try clear hk); (try clear hi)) | (go_at_call 67; (with_reducible refine (laws_scGood.calls k1 _ _ (rd_L6 l0 x7_1) false _ ?side1 ?side2 A7.out).mono ?_); (case side1 => repeat (first | exact (Kd.C_below HR489_0.out HB.out) | (with_reducible refine Kd.C_alloc ?_ _) | (with_reducible refine Kd.C_drewN ?_ _) | (with_reducible refine Kd.C_drew ?_))); (case side2 => exact HC489_0.out); rintro e w12 ⟨rfl, hb⟩; have n0_ := Aside0.mk (below_step (by repeat (first | (with_reducible first | exact HB.out | apply below_alloc | apply pw_below_drewN | apply below_drew1) | exact HB.out)) hb); clear HB; have HB := n0_; clear n0_; (try clear hb); (try clear hb2); (try clear hk); (try clear hi)))
        go_ret
        exact ⟨by first | rfl | (simp [errW_none, errW_some] <;> rfl) | (simp [*, errW_none, errW_some] <;> rfl) | (simp [bneNil]; done), by repeat (first | (with_reducible first | exact HB.out | apply below_alloc | apply pw_below_drewN | apply below_drew1) | exact HB.out)⟩
      ·
       replace c6 := Bool.eq_false_iff.mpr c6
       subst c6
       have H1 : (some false) = some r := by rw [if_neg (show ¬ (false = true) by decide)] at H; exact H
       clear H
       have H := H1
       clear H1
       obtain rfl := Option.some.inj H
       have p489 : 0 ≤ (x7_1 : Int) := of_decide_eq_true (by first | (with_reducible assumption) | assumption)
       have q489 : x7_1 < (l0.length : Int) := of_decide_eq_true (by first | (with_reducible assumption) | assumption)
       obtain ⟨ad489, A489_0, c489_0, e489, hx489_0, hl489_0, hi489_0⟩ := at_L6 HR0.out x7_1 p489 q489
       cases e489
       replace hx489_0 := (HB.out.cell (World.block_lt_of_cell? w _ hx489_0)).trans hx489_0
       have HR489_0 := Aside0.mk hi489_0
       have HC489_0 := Aside0.mk hl489_0
       clear hi489_0 hl489_0
       replace p489 := eq_true p489
       replace q489 := eq_true q489
       go_wp2_with (first | ((with_reducible refine gate_callee (f := 72) rfl ?_); refine goesL_ (some 12) rfl rfl Tryd.func72 (by kernel_rfl) rfl #[.slice A489_0 (rd_L6 l0 x7_1).length c489_0, .int .i64 10] rfl (by (try simp only [List.map_toArray, List.map_cons, List.map_nil]); first | done | rfl | (simp only [List.length_drop, List.length_take]; rfl)) ?_; (with_reducible refine (spec_GoodTerms.calls k1 _ _ (rd_L6 l0 x7_1) 10 false _ ?side1 ?side2 A5.out).mono ?_); (case side1 => repeat (first | exact (Kd.C_below HR489_0.out HB.out) | (with_reducible refine Kd.C_alloc ?_ _) | (with_reducible refine Kd.C_drewN ?_ _) | (with_reducible refine Kd.C_drew ?_))); (case side2 => exact HC489_0.out); rintro e w13 ⟨rfl, hb⟩; refine ⟨_, rfl, ?_⟩; have n0_ := Aside0.mk (below_step (by repeat (first | (with_reducible first | exact HB.out | apply below_alloc | apply pw_below_drewN | apply below_drew1) | exact HB.out)) hb); clear HB; have HB := n0_; clear n0_; (try clear hb); (try clear hb2); (try clear hk); (try clear hi)))
       go_ret
       exact ⟨by first | rfl | (simp [errW_none, errW_some] <;> rfl) | (simp [*, errW_none, errW_some] <;> rfl) | (simp [bneNil]; done), by repeat (first | (with_reducible first | exact HB.out | apply below_alloc | apply pw_below_drewN | apply below_drew1) | exact HB.out)⟩
     ·
      rw [if_neg c4] at H
      exact absurd H (by simp)
    ·
     rw [if_neg c3] at H
     exact absurd H (by simp)
   ·
    rw [if_neg c2] at H
    have c2b0 : decide (x7_1 < (l0.length : Int)) = false := decide_eq_false c2
    clear c2
    obtain rfl := Option.some.inj H
    go_wp2
    go_ret
    exact ⟨by first | rfl | (simp [errW_none, errW_some] <;> rfl) | (simp [*, errW_none, errW_some] <;> rfl) | (simp [bneNil]; done), by repeat (first | (with_reducible first | exact HB.out | apply below_alloc | apply pw_below_drewN | apply below_drew1) | exact HB.out)⟩

def laws_siAll.f  : Option ((List (List (S24)))) := some (([(([(⟨4, 3, 0, 0, 0, (⟨#[48]⟩ : ByteArray)⟩ : S24)] : List (S24)))] : List (List (S24))))

set_option maxHeartbeats 80000000 in
set_option maxRecDepth 100000 in
theorem laws_siAll.calls  (r : List (List (S24))) (w : World) (h : laws_siAll.f  = some r) :
    Calls Tryd.prog 45 #[] w fun e w' => ∃ v0_ : Value, e = .returned (v0_) ∧ Kd.N (Kd.slice 24 k24) 42 w' w.heap.size (fun k_ => (w.heap.size ≤ k_)) v0_ r ∧ Below w.heap.size w w' := by
  have hu24 := Tryd.underlying24
  have HB := Aside0.mk (Below.refl w.heap.size w)
  have H : (some (([(([(⟨4, 3, 0, 0, 0, (⟨#[48]⟩ : ByteArray)⟩ : S24)] : List (S24)))] : List (List (S24))))) = some r := h
  clear h
  obtain ⟨y522, hy522⟩ : ∃ y_ : List (S24), y_ = (([(⟨4, 3, 0, 0, 0, (⟨#[48]⟩ : ByteArray)⟩ : S24)] : List (S24))) := ⟨_, rfl⟩
  replace H : (some (([y522] : List (List (S24))))) = some r := by first | (rw [hy522]; with_reducible exact H) | (have H2_ := (Option.bind_some _ _).symm.trans H; rw [hy522]; with_reducible exact H2_) | (have H2_ := (Option.bind_some _ _).symm.trans H; with_reducible exact H2_) | with_reducible exact H | (rw [hy522]; exact H) | exact H
  have Ny522 := Aside0.mk hy522
  clear hy522
  obtain ⟨y525, hy525⟩ : ∃ y_ : List (List (S24)), y_ = (([y522] : List (List (S24)))) := ⟨_, rfl⟩
  replace H : (some y525) = some r := by first | (rw [hy525]; with_reducible exact H) | (have H2_ := (Option.bind_some _ _).symm.trans H; rw [hy525]; with_reducible exact H2_) | (have H2_ := (Option.bind_some _ _).symm.trans H; with_reducible exact H2_) | with_reducible exact H | (rw [hy525]; exact H) | exact H
  have Ny525 := Aside0.mk hy525
  clear hy525
  obtain rfl := Option.some.inj H
  go_enter Tryd.func45, Tryd.ntmps45
  go_wp2_with (first | ((with_reducible refine gate_dst (N := 2) rfl ?_); refine Kd.R_lit k24 _ 24 ?hg (N := 2) ?hd (xs := ([(⟨4, 3, 0, 0, 0, (⟨#[48]⟩ : ByteArray)⟩ : S24)] : List (S24))) (inner := [.int .i64 4, .int .i64 3, .int .u64 0, .int .u64 0, .int .u64 0, .string (⟨#[48]⟩ : ByteArray)]) (ok := fun _ => True) (okp := fun _ => True) ?hr ?hp (fun _ hk => hk) trivial (Below.refl _ _) (Nat.le_refl _) (by simp) ?_; (case hd => rfl); (case hg => rfl); (case hr => first | (go_simp; done) | (go_simp; rfl) | (go_simp; simp [u8w]; done)); (case hp => exact (Reps.c6 (show Kd.M k24 _ _ _ (⟨4, 3, 0, 0, 0, (⟨#[48]⟩ : ByteArray)⟩ : S24) [.int .i64 4, .int .i64 3, .int .u64 0, .int .u64 0, .int .u64 0, .string (⟨#[48]⟩ : ByteArray)] from (k24_mkM _ _ _ (⟨4, 3, 0, 0, 0, (⟨#[48]⟩ : ByteArray)⟩ : S24) )) (Reps.none _ _))); intro v523 w1 ho2 hb hg_ hnew_; clear hg_ hnew_; (first | rw [← Ny522.out] at ho2 | (simp only [Int.reduceToNat] at ho2; rw [← Ny522.out] at ho2)); have n0_ := Aside0.mk (Kd.R_lower (Kd.R_newM (M := fun k_ => (w.heap.size ≤ k_)) ho2 (below_size (by repeat (first | (with_reducible first | exact HB.out | apply below_alloc | apply pw_below_drewN | apply below_drew1) | exact HB.out))) (fun k_ h_ => h_)) (below_size (by repeat (first | (with_reducible first | exact HB.out | apply below_alloc | apply pw_below_drewN | apply below_drew1) | exact HB.out)))); have n1_ := Aside0.mk (below_step (by repeat (first | (with_reducible first | exact HB.out | apply below_alloc | apply pw_below_drewN | apply below_drew1) | exact HB.out)) hb); clear HB; have HO524 := n0_; have HB := n1_; clear n0_ n1_; clear hb ho2; obtain ⟨Ao3, co3, eo3⟩ := Kd.R_slice HO524.out; subst eo3) | ((with_reducible refine gate_dst (N := 3) rfl ?_); refine Kd.N_lit (Kd.slice 24 k24) _ 42 ?hg (N' := 3) ?hd (xs := ([y522] : List (List (S24)))) (inner := [.slice Ao3 y522.length co3]) (ok := (fun k_ => (w.heap.size ≤ k_))) (okp := (fun k_ => (w.heap.size ≤ k_))) ?hr ?hp (fun _ hk => hk) ((show ∀ k_, w1.heap.size ≤ k_ → (fun k_ => (w.heap.size ≤ k_)) k_ from fun k_ hk => (Nat.le_trans (below_size (by repeat (first | (with_reducible first | exact HB.out | apply below_alloc | apply pw_below_drewN | apply below_drew1) | exact HB.out))) hk)) _ (Nat.le_refl _)) (Below.refl _ _) (Nat.le_refl _) (by simp) ?_; (case hd => rfl); (case hg => rfl); (case hr => first | (go_simp; done) | (go_simp; rfl) | (go_simp; simp [u8w]; done)); (case hp => exact (Reps.one (show Kd.FK (Kd.slice 24 k24) _ _ y522 [.slice Ao3 y522.length co3] from (Kd.FK_slice_mk (Kd.R_reads' (Kd.R_mono (ok' := (fun k_ => (w.heap.size ≤ k_))) (HO524.out) (fun k_ hk => hk.1))).2.1 (Kd.R_F (Kd.R_mono (ok' := (fun k_ => (w.heap.size ≤ k_))) (HO524.out) (fun k_ hk => hk.1))))) (Reps.none _ _))); intro v526 w4 ho5 hb hg_ hnew_; clear hg_ hnew_; (first | rw [← Ny525.out] at ho5 | (simp only [Int.reduceToNat] at ho5; rw [← Ny525.out] at ho5)); have n0_ := Aside0.mk (Kd.N_lower ho5 (below_size (by repeat (first | (with_reducible first | exact HB.out | apply below_alloc | apply pw_below_drewN | apply below_drew1) | exact HB.out)))); have n1_ := Aside0.mk (below_step (by repeat (first | (with_reducible first | exact HB.out | apply below_alloc | apply pw_below_drewN | apply below_drew1) | exact HB.out)) hb); clear HB; clear HO524; have HO527 := n0_; have HB := n1_; clear n0_ n1_; clear hb ho5))
  go_ret
  exact ⟨_, by first | rfl | (simp [errW_none, errW_some] <;> rfl) | (simp [*, errW_none, errW_some] <;> rfl), by (with_reducible repeat (first | apply Kd.N_alloc | apply Kd.N_drewN | apply Kd.N_drew)); exact HO527.out, by repeat (first | (with_reducible first | exact HB.out | apply below_alloc | apply pw_below_drewN | apply below_drew1) | exact HB.out)⟩

def semver_zzIndex.l0 : Nat → ByteArray → ByteArray → Int → Option (Int)
  | 0, _, _, _ => none
  | k + 1, x0, x1, x5 => if (wrap64 (x5 + (x1.size : Int))) ≤ (x0.size : Int) then (if 0 ≤ x5 then (if x5 ≤ (wrap64 (x5 + (x1.size : Int))) then (if (x0.extract (x5 : Int).toNat ((wrap64 (x5 + (x1.size : Int))) : Int).toNat).toList = x1.toList then (some x5) else (semver_zzIndex.l0 k x0 x1 (wrap64 (x5 + 1)))) else (none)) else (none)) else (some (-1))

def semver_zzIndex.f (k : Nat) (a0 : ByteArray) (a1 : ByteArray) : Option (Int) := semver_zzIndex.l0 k a0 a1 0

set_option maxHeartbeats 80000000 in
set_option maxRecDepth 100000 in
theorem semver_zzIndex.calls (k : Nat) (a0 : ByteArray) (a1 : ByteArray) (r : Int) (w : World) (h : semver_zzIndex.f k a0 a1 = some r) :
    Calls Tryd.prog 128 #[.string a0, .string a1] w fun e w' => e = .returned (.int .i64 r) ∧ Drawn0 w w' := by
  have H : (semver_zzIndex.l0 k a0 a1 0) = some r := h
  clear h
  have H' := Aside0.mk H
  clear H
  go_enter Tryd.func128, Tryd.ntmps128
  go_wp2
  go_loopg [5] k (fun kq v5 w' => ∃ (x5_1 : Int), v5 = .int .i64 x5_1 ∧ Aside0 (semver_zzIndex.l0 kq a0 a1 x5_1 = some r) ∧ Aside0 (kq ≤ k) ∧ Drawn0 w w')
  case atStart => exact ⟨(0), (by first | rfl | (simp; done) | (simp [*]; done)), H', ⟨Nat.le_refl _⟩, by repeat (first | exact Drawn0.refl _ | apply Drawn0.step)⟩
  case round =>
    clear H'
    try clear c1
    try clear p2
    obtain ⟨x5_1, rfl, HA, HK1, ⟨m1, rfl⟩⟩ := hrel
    cases gk with
    | zero => exact absurd HA.out (by simp [semver_zzIndex.l0])
    | succ k1 =>
      have H := HA.out
      clear HA
      simp only [semver_zzIndex.l0] at H
      by_cases c3 : (wrap64 (x5_1 + (a1.size : Int))) ≤ (a0.size : Int)
      · rw [if_pos c3] at H
        have c3b0 : decide ((wrap64 (x5_1 + (a1.size : Int))) ≤ (a0.size : Int)) = true := decide_eq_true c3
        clear c3
        by_cases c4 : 0 ≤ x5_1
        · rw [if_pos c4] at H
          have c4b0 := eq_true c4
          have c4b1 : decide (0 ≤ x5_1) = true := decide_eq_true c4
          clear c4
          by_cases c5 : x5_1 ≤ (wrap64 (x5_1 + (a1.size : Int)))
          · rw [if_pos c5] at H
            have c5b0 := eq_true c5
            have c5b1 : decide (x5_1 ≤ (wrap64 (x5_1 + (a1.size : Int)))) = true := decide_eq_true c5
            have c6b0 := eq_true (of_decide_eq_true (by first | (with_reducible assumption) | assumption) : (wrap64 (x5_1 + (a1.size : Int))) ≤ (a0.size : Int))
            by_cases c7 : (a0.extract (x5_1 : Int).toNat ((wrap64 (x5_1 + (a1.size : Int))) : Int).toNat).toList = a1.toList
            · rw [if_pos c7] at H
              have c7b0 : ((a0.extract (x5_1 : Int).toNat ((wrap64 (x5_1 + (a1.size : Int))) : Int).toNat).toList == a1.toList) = true := beq_iff_eq.mpr c7
              have c7b1 : ((a0.extract (x5_1 : Int).toNat ((wrap64 (x5_1 + (a1.size : Int))) : Int).toNat).toList != a1.toList) = false := bne_eq_false_iff_eq.mpr c7
              clear c7
              obtain rfl := Option.some.inj H
              go_wp2
              go_ret
              exact ⟨by first | rfl | (simp; done) | (simp [*]; done) | (simp [bneNil]; done), by repeat (first | exact Drawn0.refl _ | apply Drawn0.step)⟩
            · rw [if_neg c7] at H
              have c7b0 : ((a0.extract (x5_1 : Int).toNat ((wrap64 (x5_1 + (a1.size : Int))) : Int).toNat).toList == a1.toList) = false := beq_eq_false_iff_ne.mpr c7
              have c7b1 : ((a0.extract (x5_1 : Int).toNat ((wrap64 (x5_1 + (a1.size : Int))) : Int).toNat).toList != a1.toList) = true := bne_iff_ne.mpr c7
              have H' := Aside0.mk H
              clear H
              go_wp2
              go_roundg k1
              case measure => have := HK1.out; omega
              case rel => exact ⟨(wrap64 (x5_1 + 1)), (by first | rfl | (simp; done) | (simp [*]; done)), H', ⟨by have := HK1.out; omega⟩, by repeat (first | exact Drawn0.refl _ | apply Drawn0.step)⟩
          · rw [if_neg c5] at H
            exact absurd H (by simp)
        · rw [if_neg c4] at H
          exact absurd H (by simp)
      · rw [if_neg c3] at H
        have c3b0 : decide ((wrap64 (x5_1 + (a1.size : Int))) ≤ (a0.size : Int)) = false := decide_eq_false c3
        clear c3
        obtain rfl := Option.some.inj H
        go_wp2
        go_ret
        exact ⟨by first | rfl | (simp; done) | (simp [*]; done) | (simp [bneNil]; done), by repeat (first | exact Drawn0.refl _ | apply Drawn0.step)⟩

def semver_zzSplit.l0 : Nat → ByteArray → ByteArray → List ByteArray → Option (List ByteArray)
  | 0, _, _, _ => none
  | k + 1, x0, x1, x5 => (semver_zzIndex.f k x0 x1).bind fun t564 => (if t564 < 0 then (if x5.length < 8796093022208 then (some (x5 ++ [x0])) else (none)) else (if 0 ≤ t564 then (if t564 ≤ (x0.size : Int) then (if x5.length < 8796093022208 then (if 0 ≤ (wrap64 (t564 + (x1.size : Int))) then (if (wrap64 (t564 + (x1.size : Int))) ≤ (x0.size : Int) then (semver_zzSplit.l0 k (x0.extract ((wrap64 (t564 + (x1.size : Int))) : Int).toNat x0.size) x1 (x5 ++ [x0.extract 0 (t564 : Int).toNat])) else (none)) else (none)) else (none)) else (none)) else (none)))

def semver_zzSplit.f (k : Nat) (a0 : ByteArray) (a1 : ByteArray) : Option (List ByteArray) := semver_zzSplit.l0 k a0 a1 ([] : List ByteArray)

set_option maxHeartbeats 80000000 in
set_option maxRecDepth 100000 in
theorem semver_zzSplit.calls (k : Nat) (a0 : ByteArray) (a1 : ByteArray) (r : List ByteArray) (w : World) (h : semver_zzSplit.f k a0 a1 = some r) :
  Calls Tryd.prog 121 #[.string a0, .string a1] w fun e w' => ∃ v0_ : Value, e = .returned (v0_) ∧ Kd.R Kd.string 9 w' w.heap.size (fun _ => True) v0_ r ∧ Below w.heap.size w w' := by
 have HB := Aside0.mk (Below.refl w.heap.size w)
 have H : (semver_zzSplit.l0 k a0 a1 ([] : List ByteArray)) = some r := h
 clear h
 have H' := Aside0.mk H
 clear H
 go_enter Tryd.func121, Tryd.ntmps121
 go_wp2
 go_loopg [0, 5] k (fun kq v0 v5 w' => ∃ (x0_1 : ByteArray) (x5_1 : List ByteArray), v0 = .string x0_1 ∧ Aside0 (semver_zzSplit.l0 kq x0_1 a1 x5_1 = some r) ∧ Aside0 (kq ≤ k) ∧ Aside0 (Kd.R Kd.string 9 w' w.heap.size (fun _ => True) v5 x5_1) ∧ Aside0 (Below w.heap.size w w'))
 case atStart => exact ⟨(a0), (([] : List ByteArray)), (by first | rfl | (simp; done) | (simp [*]; done)), H', ⟨Nat.le_refl _⟩, ⟨by first | exact Kd.R_nil _ _ _ _ _ | exact Kd.N_nil _ _ _ _ _ | exact Kd.V_nil _ _ _ _ _ | exact Kd.Q_nil _ _ _ _ _ | exact Kd.S_nil _ _ _ _ _⟩, ⟨by repeat (first | (with_reducible first | exact HB.out | apply below_alloc | apply pw_below_drewN | apply below_drew1) | exact HB.out)⟩⟩
 case round =>
  clear H'
  try clear c1
  try clear p2
  obtain ⟨x0_1, x5_1, rfl, HA, HK1, HO_5, HB⟩ := hrel
  cases gk with
  | zero => exact absurd HA.out (by simp [semver_zzSplit.l0])
  | succ k1 =>
   have H := HA.out
   clear HA
   simp only [semver_zzSplit.l0] at H
   replace H := Option.bind_eq_some_iff.mp H
   obtain ⟨t564, A30, H⟩ := H
   replace H : (if t564 < 0 then (if x5_1.length < 8796093022208 then (some (x5_1 ++ [x0_1])) else (none)) else (if 0 ≤ t564 then (if t564 ≤ (x0_1.size : Int) then (if x5_1.length < 8796093022208 then (if 0 ≤ (wrap64 (t564 + (a1.size : Int))) then (if (wrap64 (t564 + (a1.size : Int))) ≤ (x0_1.size : Int) then (semver_zzSplit.l0 k1 (x0_1.extract ((wrap64 (t564 + (a1.size : Int))) : Int).toNat x0_1.size) a1 (x5_1 ++ [x0_1.extract 0 (t564 : Int).toNat])) else (none)) else (none)) else (none)) else (none)) else (none))) = some r := H
   have A3 := Aside0.mk A30
   clear A30
   by_cases c4 : t564 < 0
   ·
    rw [if_pos c4] at H
    have c4b0 : decide (t564 < 0) = true := decide_eq_true c4
    clear c4
    by_cases c5 : x5_1.length < 8796093022208
    ·
     rw [if_pos c5] at H
     have LMc5 := Aside0.mk c5
     clear c5
     obtain ⟨y565, hy565⟩ : ∃ y_ : List ByteArray, y_ = (x5_1 ++ [x0_1]) := ⟨_, rfl⟩
     replace H : (some y565) = some r := by first | (rw [hy565]; with_reducible exact H) | (have H2_ := (Option.bind_some _ _).symm.trans H; rw [hy565]; with_reducible exact H2_) | (have H2_ := (Option.bind_some _ _).symm.trans H; with_reducible exact H2_) | with_reducible exact H | (rw [hy565]; exact H) | exact H
     have Ny565 := Aside0.mk hy565
     clear hy565
     obtain rfl := Option.some.inj H
     go_wp2_with (first | ((with_reducible refine gate_callee (f := 128) rfl ?_); refine goesL_ (some 9) rfl rfl Tryd.func128 (by kernel_rfl) rfl #[.string x0_1, .string a1] rfl (by (try simp only [List.map_toArray, List.map_cons, List.map_nil]); first | done | rfl | (simp only [List.length_drop, List.length_take]; rfl)) ?_; (with_reducible refine (semver_zzIndex.calls k1 x0_1 a1 t564 _ A3.out).mono ?_); rintro e w' ⟨rfl, ⟨nd, rfl⟩⟩; refine ⟨_, rfl, ?_⟩) | ((with_reducible refine gate_builtin (b := .append) (xs := #[.tmp 12, .tmp 14]) rfl ?_); at_builtin; refine Kd.R_append Kd.string (w0 := w) w.heap.size rfl (.tmp 12) (.tmp 14) 92 9 (.string ⟨#[]⟩) 16 rfl Tryd.underlying92 info9 rfl (by decide) (by omega) u5 x5_1 x0_1 [.string x0_1] (fun _ => True) (fun _ => False) rfl rfl ?aP (fun _ hk => hk.elim) ?aF ?aO ?aB ?aS ?aL ?_; (case aP => exact rfl); (case aB => exact (by repeat (first | (with_reducible first | exact HB.out | apply below_alloc | apply pw_below_drewN | apply below_drew1) | exact HB.out))); (case aF => exact (fun _ _ => trivial)); (case aO => exact (by (with_reducible repeat (first | apply Kd.R_alloc | apply Kd.R_drewN | apply Kd.R_drew)); exact HO_5.out)); (case aS => exact (below_size (by repeat (first | (with_reducible first | exact HB.out | apply below_alloc | apply pw_below_drewN | apply below_drew1) | exact HB.out)))); (case aL => have := LMc5.out; omega); intro v566 w6 ho hb hg hat; rw [← Ny565.out] at ho; have n0_ := Aside0.mk (hb); have n1_ := Aside0.mk (ho); clear HB; clear HO_5; have HB := n0_; have HO567 := n1_; clear n0_ n1_; clear ho hb hg hat))
     go_ret
     exact ⟨_, by first | rfl | (simp [errW_none, errW_some] <;> rfl) | (simp [*, errW_none, errW_some] <;> rfl), by (with_reducible repeat (first | apply Kd.R_alloc | apply Kd.R_drewN | apply Kd.R_drew)); exact HO567.out, by repeat (first | (with_reducible first | exact HB.out | apply below_alloc | apply pw_below_drewN | apply below_drew1) | exact HB.out)⟩
    ·
     rw [if_neg c5] at H
     exact absurd H (by simp)
   ·
    rw [if_neg c4] at H
    have c4b0 : decide (t564 < 0) = false := decide_eq_false c4
    clear c4
    by_cases c7 : 0 ≤ t564
    ·
     rw [if_pos c7] at H
     have c7b0 := eq_true c7
     have c7b1 : decide (0 ≤ t564) = true := decide_eq_true c7
     clear c7
     by_cases c8 : t564 ≤ (x0_1.size : Int)
     ·
      rw [if_pos c8] at H
      have c8b0 := eq_true c8
      have c8b1 : decide (t564 ≤ (x0_1.size : Int)) = true := decide_eq_true c8
      clear c8
      by_cases c9 : x5_1.length < 8796093022208
      ·
       rw [if_pos c9] at H
       have LMc9 := Aside0.mk c9
       clear c9
       obtain ⟨y568, hy568⟩ : ∃ y_ : List ByteArray, y_ = (x5_1 ++ [x0_1.extract 0 (t564 : Int).toNat]) := ⟨_, rfl⟩
       replace H : (if 0 ≤ (wrap64 (t564 + (a1.size : Int))) then (if (wrap64 (t564 + (a1.size : Int))) ≤ (x0_1.size : Int) then (semver_zzSplit.l0 k1 (x0_1.extract ((wrap64 (t564 + (a1.size : Int))) : Int).toNat x0_1.size) a1 y568) else (none)) else (none)) = some r := by first | (rw [hy568]; with_reducible exact H) | (have H2_ := (Option.bind_some _ _).symm.trans H; rw [hy568]; with_reducible exact H2_) | (have H2_ := (Option.bind_some _ _).symm.trans H; with_reducible exact H2_) | with_reducible exact H | (rw [hy568]; exact H) | exact H
       have Ny568 := Aside0.mk hy568
       clear hy568
       obtain ⟨ji10, hji10⟩ : ∃ j_ : Int, (wrap64 (t564 + (a1.size : Int))) = j_ := ⟨_, rfl⟩
       replace H : (if 0 ≤ (ji10) then (if (ji10) ≤ (x0_1.size : Int) then (semver_zzSplit.l0 k1 (x0_1.extract ((ji10) : Int).toNat x0_1.size) a1 y568) else (none)) else (none)) = some r := by first | (rw [hji10] at H; exact H) | (simp only [hji10] at H ⊢; exact H)
       (try rw [hji10] at A3)
       have hji10w : (IntKind.i64.wrap (t564 + (a1.size : Int))) = ji10 := (i64_w _).trans hji10
       by_cases c11 : 0 ≤ (ji10)
       ·
        rw [if_pos c11] at H
        have c11b0 := eq_true c11
        have c11b1 : decide (0 ≤ (ji10)) = true := decide_eq_true c11
        clear c11
        by_cases c12 : (ji10) ≤ (x0_1.size : Int)
        ·
         rw [if_pos c12] at H
         have c12b0 := eq_true c12
         have c12b1 : decide ((ji10) ≤ (x0_1.size : Int)) = true := decide_eq_true c12
         clear c12
         have H' := Aside0.mk H
         clear H
         go_wp2_with (first | ((with_reducible refine gate_callee (f := 128) rfl ?_); refine goesL_ (some 9) rfl rfl Tryd.func128 (by kernel_rfl) rfl #[.string x0_1, .string a1] rfl (by (try simp only [List.map_toArray, List.map_cons, List.map_nil]); first | done | rfl | (simp only [List.length_drop, List.length_take]; rfl)) ?_; (with_reducible refine (semver_zzIndex.calls k1 x0_1 a1 t564 _ A3.out).mono ?_); rintro e w' ⟨rfl, ⟨nd, rfl⟩⟩; refine ⟨_, rfl, ?_⟩) | ((with_reducible refine gate_builtin (b := .append) (xs := #[.tmp 16, .tmp 20]) rfl ?_); at_builtin; refine Kd.R_append Kd.string (w0 := w) w.heap.size rfl (.tmp 16) (.tmp 20) 92 9 (.string ⟨#[]⟩) 16 rfl Tryd.underlying92 info9 rfl (by decide) (by omega) u5 x5_1 (x0_1.extract 0 (t564 : Int).toNat) [.string (x0_1.extract 0 (t564 : Int).toNat)] (fun _ => True) (fun _ => False) rfl rfl ?aP (fun _ hk => hk.elim) ?aF ?aO ?aB ?aS ?aL ?_; (case aP => exact rfl); (case aB => exact (by repeat (first | (with_reducible first | exact HB.out | apply below_alloc | apply pw_below_drewN | apply below_drew1) | exact HB.out))); (case aF => exact (fun _ _ => trivial)); (case aO => exact (by (with_reducible repeat (first | apply Kd.R_alloc | apply Kd.R_drewN | apply Kd.R_drew)); exact HO_5.out)); (case aS => exact (below_size (by repeat (first | (with_reducible first | exact HB.out | apply below_alloc | apply pw_below_drewN | apply below_drew1) | exact HB.out)))); (case aL => have := LMc9.out; omega); intro v569 w13 ho hb hg hat; rw [← Ny568.out] at ho; have n0_ := Aside0.mk (hb); have n1_ := Aside0.mk (ho); clear HB; clear HO_5; have HB := n0_; have HO570 := n1_; clear n0_ n1_; clear ho hb hg hat))
         go_roundg k1
         case measure => have := HK1.out; omega
         case rel => exact ⟨(x0_1.extract ((ji10) : Int).toNat x0_1.size), (y568), (by first | rfl | (simp; done) | (simp only [← hji10] <;> (first | rfl | simp)) | (simp [*]; done)), H', ⟨by have := HK1.out; omega⟩, ⟨by (with_reducible repeat (first | apply Kd.R_alloc | apply Kd.R_drewN | apply Kd.R_drew)); exact HO570.out⟩, ⟨by repeat (first | (with_reducible first | exact HB.out | apply below_alloc | apply pw_below_drewN | apply below_drew1) | exact HB.out)⟩⟩
        ·
         rw [if_neg c12] at H
         exact absurd H (by simp)
       ·
        rw [if_neg c11] at H
        exact absurd H (by simp)
      ·
       rw [if_neg c9] at H
       exact absurd H (by simp)
     ·
      rw [if_neg c8] at H
      exact absurd H (by simp)
    ·
     rw [if_neg c7] at H
     exact absurd H (by simp)

def semver_compareSegment.f (a0 : Int) (a1 : Int) : Option (Int) := if a0 < a1 then (some (-1)) else (if a0 > a1 then (some 1) else (some 0))

set_option maxHeartbeats 80000000 in
set_option maxRecDepth 100000 in
theorem semver_compareSegment.calls (a0 : Int) (a1 : Int) (r : Int) (w : World) (h : semver_compareSegment.f a0 a1 = some r) :
    Calls Tryd.prog 107 #[.int .u64 a0, .int .u64 a1] w fun e w' => e = .returned (.int .i64 r) ∧ Drawn0 w w' := by
  have H : (if a0 < a1 then (some (-1)) else (if a0 > a1 then (some 1) else (some 0))) = some r := h
  clear h
  by_cases c3 : a0 < a1
  · rw [if_pos c3] at H
    have c3b0 : decide (a0 < a1) = true := decide_eq_true c3
    clear c3
    obtain rfl := Option.some.inj H
    go_enter Tryd.func107, Tryd.ntmps107
    go_wp2
    go_ret
    exact ⟨by first | rfl | (simp; done) | (simp [*]; done) | (simp [bneNil]; done), by repeat (first | exact Drawn0.refl _ | apply Drawn0.step)⟩
  · rw [if_neg c3] at H
    have c3b0 : decide (a0 < a1) = false := decide_eq_false c3
    clear c3
    by_cases c4 : a0 > a1
    · rw [if_pos c4] at H
      have c4b0 : decide (a1 < a0) = true := decide_eq_true c4
      clear c4
      obtain rfl := Option.some.inj H
      go_enter Tryd.func107, Tryd.ntmps107
      go_wp2
      go_ret
      exact ⟨by first | rfl | (simp; done) | (simp [*]; done) | (simp [bneNil]; done), by repeat (first | exact Drawn0.refl _ | apply Drawn0.step)⟩
    · rw [if_neg c4] at H
      have c4b0 : decide (a1 < a0) = false := decide_eq_false c4
      clear c4
      obtain rfl := Option.some.inj H
      go_enter Tryd.func107, Tryd.ntmps107
      go_wp2
      go_ret
      exact ⟨by first | rfl | (simp; done) | (simp [*]; done) | (simp [bneNil]; done), by repeat (first | exact Drawn0.refl _ | apply Drawn0.step)⟩

def semver_Version_Major.f (a0_0 : Int) (a0_1 : Int) (a0_2 : Int) (a0_3 : ByteArray) (a0_4 : ByteArray) (a0_5 : ByteArray) : Option (Int) := some a0_0

set_option maxHeartbeats 80000000 in
set_option maxRecDepth 100000 in
theorem semver_Version_Major.calls (a0_0 : Int) (a0_1 : Int) (a0_2 : Int) (a0_3 : ByteArray) (a0_4 : ByteArray) (a0_5 : ByteArray) (r : Int) (w : World) (h : semver_Version_Major.f a0_0 a0_1 a0_2 a0_3 a0_4 a0_5 = some r) :
    Calls Tryd.prog 94 #[.agg #[.int .u64 a0_0, .int .u64 a0_1, .int .u64 a0_2, .string a0_3, .string a0_4, .string a0_5]] w fun e w' => e = .returned (.int .u64 r) ∧ Below w.heap.size w w' := by
  have hu106 := Tryd.underlying106
  have HB := Aside0.mk (Below.refl w.heap.size w)
  have H : (some a0_0) = some r := h
  clear h
  obtain rfl := Option.some.inj H
  go_enter Tryd.func94, Tryd.ntmps94
  go_wp2_with (first | ((with_reducible refine gate_dst (N := 1) rfl ?_); refine box_event ?hg (N := 1) ?hd (cs := #[.int .u64 a0_0, .int .u64 a0_1, .int .u64 a0_2, .string a0_3, .string a0_4, .string a0_5]) (t := 106) ?hr ?_; (case hd => rfl); (case hg => rfl); (case hr => first | (go_simp; done) | (go_simp; rfl) | (go_simp; simp [u8w]; done)); intro gb571 hg w2 hbox hb; have n0_ := Aside0.mk (below_step (by repeat (first | (with_reducible first | exact HB.out | apply below_alloc | apply pw_below_drewN | apply below_drew1) | exact HB.out)) hb); have n1_ := Aside0.mk (hbox); have n2_ := Aside0.mk ((by rw [hg]; exact (below_size (by repeat (first | (with_reducible first | exact HB.out | apply below_alloc | apply pw_below_drewN | apply below_drew1) | exact HB.out))) : w.heap.size ≤ gb571)); have n3_ := Aside0.mk ((by rw [hg]; exact (below_size (by repeat (first | (with_reducible first | exact HB.out | apply below_alloc | apply pw_below_drewN | apply below_drew1) | exact HB.out))) : w.heap.size ≤ gb571)); clear HB; have HB := n0_; have BK571 := n1_; have GW571 := n2_; have GE571 := n3_; clear n0_ n1_ n2_ n3_; clear hb hbox hg; have hcz3_0 : w2.cell? ⟨gb571, 0, none⟩ = some (.int .u64 a0_0) := (blk_cell BK571.out 0).trans rfl; have hcz3_1 : w2.cell? ⟨gb571, 1, none⟩ = some (.int .u64 a0_1) := (blk_cell BK571.out 1).trans rfl; have hcz3_2 : w2.cell? ⟨gb571, 2, none⟩ = some (.int .u64 a0_2) := (blk_cell BK571.out 2).trans rfl; have hcz3_3 : w2.cell? ⟨gb571, 3, none⟩ = some (.string a0_3) := (blk_cell BK571.out 3).trans rfl; have hcz3_4 : w2.cell? ⟨gb571, 4, none⟩ = some (.string a0_4) := (blk_cell BK571.out 4).trans rfl; have hcz3_5 : w2.cell? ⟨gb571, 5, none⟩ = some (.string a0_5) := (blk_cell BK571.out 5).trans rfl; have hfz3_0 := blk_frozen BK571.out 0; have hfz3_1 := blk_frozen BK571.out 1; have hfz3_2 := blk_frozen BK571.out 2; have hfz3_3 := blk_frozen BK571.out 3; have hfz3_4 := blk_frozen BK571.out 4; have hfz3_5 := blk_frozen BK571.out 5))
  go_ret
  exact ⟨by first | rfl | (simp [errW_none, errW_some] <;> rfl) | (simp [*, errW_none, errW_some] <;> rfl) | (simp [bneNil]; done), by repeat (first | (with_reducible first | exact HB.out | apply below_alloc | apply pw_below_drewN | apply below_drew1 | refine below_set ?_ GE571.out) | exact HB.out)⟩

def semver_Version_Minor.f (a0_0 : Int) (a0_1 : Int) (a0_2 : Int) (a0_3 : ByteArray) (a0_4 : ByteArray) (a0_5 : ByteArray) : Option (Int) := some a0_1

set_option maxHeartbeats 80000000 in
set_option maxRecDepth 100000 in
theorem semver_Version_Minor.calls (a0_0 : Int) (a0_1 : Int) (a0_2 : Int) (a0_3 : ByteArray) (a0_4 : ByteArray) (a0_5 : ByteArray) (r : Int) (w : World) (h : semver_Version_Minor.f a0_0 a0_1 a0_2 a0_3 a0_4 a0_5 = some r) :
    Calls Tryd.prog 95 #[.agg #[.int .u64 a0_0, .int .u64 a0_1, .int .u64 a0_2, .string a0_3, .string a0_4, .string a0_5]] w fun e w' => e = .returned (.int .u64 r) ∧ Below w.heap.size w w' := by
  have hu106 := Tryd.underlying106
  have HB := Aside0.mk (Below.refl w.heap.size w)
  have H : (some a0_1) = some r := h
  clear h
  obtain rfl := Option.some.inj H
  go_enter Tryd.func95, Tryd.ntmps95
  go_wp2_with (first | ((with_reducible refine gate_dst (N := 1) rfl ?_); refine box_event ?hg (N := 1) ?hd (cs := #[.int .u64 a0_0, .int .u64 a0_1, .int .u64 a0_2, .string a0_3, .string a0_4, .string a0_5]) (t := 106) ?hr ?_; (case hd => rfl); (case hg => rfl); (case hr => first | (go_simp; done) | (go_simp; rfl) | (go_simp; simp [u8w]; done)); intro gb572 hg w2 hbox hb; have n0_ := Aside0.mk (below_step (by repeat (first | (with_reducible first | exact HB.out | apply below_alloc | apply pw_below_drewN | apply below_drew1) | exact HB.out)) hb); have n1_ := Aside0.mk (hbox); have n2_ := Aside0.mk ((by rw [hg]; exact (below_size (by repeat (first | (with_reducible first | exact HB.out | apply below_alloc | apply pw_below_drewN | apply below_drew1) | exact HB.out))) : w.heap.size ≤ gb572)); have n3_ := Aside0.mk ((by rw [hg]; exact (below_size (by repeat (first | (with_reducible first | exact HB.out | apply below_alloc | apply pw_below_drewN | apply below_drew1) | exact HB.out))) : w.heap.size ≤ gb572)); clear HB; have HB := n0_; have BK572 := n1_; have GW572 := n2_; have GE572 := n3_; clear n0_ n1_ n2_ n3_; clear hb hbox hg; have hcz3_0 : w2.cell? ⟨gb572, 0, none⟩ = some (.int .u64 a0_0) := (blk_cell BK572.out 0).trans rfl; have hcz3_1 : w2.cell? ⟨gb572, 1, none⟩ = some (.int .u64 a0_1) := (blk_cell BK572.out 1).trans rfl; have hcz3_2 : w2.cell? ⟨gb572, 2, none⟩ = some (.int .u64 a0_2) := (blk_cell BK572.out 2).trans rfl; have hcz3_3 : w2.cell? ⟨gb572, 3, none⟩ = some (.string a0_3) := (blk_cell BK572.out 3).trans rfl; have hcz3_4 : w2.cell? ⟨gb572, 4, none⟩ = some (.string a0_4) := (blk_cell BK572.out 4).trans rfl; have hcz3_5 : w2.cell? ⟨gb572, 5, none⟩ = some (.string a0_5) := (blk_cell BK572.out 5).trans rfl; have hfz3_0 := blk_frozen BK572.out 0; have hfz3_1 := blk_frozen BK572.out 1; have hfz3_2 := blk_frozen BK572.out 2; have hfz3_3 := blk_frozen BK572.out 3; have hfz3_4 := blk_frozen BK572.out 4; have hfz3_5 := blk_frozen BK572.out 5))
  go_ret
  exact ⟨by first | rfl | (simp [errW_none, errW_some] <;> rfl) | (simp [*, errW_none, errW_some] <;> rfl) | (simp [bneNil]; done), by repeat (first | (with_reducible first | exact HB.out | apply below_alloc | apply pw_below_drewN | apply below_drew1 | refine below_set ?_ GE572.out) | exact HB.out)⟩

def semver_Version_Patch.f (a0_0 : Int) (a0_1 : Int) (a0_2 : Int) (a0_3 : ByteArray) (a0_4 : ByteArray) (a0_5 : ByteArray) : Option (Int) := some a0_2

set_option maxHeartbeats 80000000 in
set_option maxRecDepth 100000 in
theorem semver_Version_Patch.calls (a0_0 : Int) (a0_1 : Int) (a0_2 : Int) (a0_3 : ByteArray) (a0_4 : ByteArray) (a0_5 : ByteArray) (r : Int) (w : World) (h : semver_Version_Patch.f a0_0 a0_1 a0_2 a0_3 a0_4 a0_5 = some r) :
    Calls Tryd.prog 96 #[.agg #[.int .u64 a0_0, .int .u64 a0_1, .int .u64 a0_2, .string a0_3, .string a0_4, .string a0_5]] w fun e w' => e = .returned (.int .u64 r) ∧ Below w.heap.size w w' := by
  have hu106 := Tryd.underlying106
  have HB := Aside0.mk (Below.refl w.heap.size w)
  have H : (some a0_2) = some r := h
  clear h
  obtain rfl := Option.some.inj H
  go_enter Tryd.func96, Tryd.ntmps96
  go_wp2_with (first | ((with_reducible refine gate_dst (N := 1) rfl ?_); refine box_event ?hg (N := 1) ?hd (cs := #[.int .u64 a0_0, .int .u64 a0_1, .int .u64 a0_2, .string a0_3, .string a0_4, .string a0_5]) (t := 106) ?hr ?_; (case hd => rfl); (case hg => rfl); (case hr => first | (go_simp; done) | (go_simp; rfl) | (go_simp; simp [u8w]; done)); intro gb573 hg w2 hbox hb; have n0_ := Aside0.mk (below_step (by repeat (first | (with_reducible first | exact HB.out | apply below_alloc | apply pw_below_drewN | apply below_drew1) | exact HB.out)) hb); have n1_ := Aside0.mk (hbox); have n2_ := Aside0.mk ((by rw [hg]; exact (below_size (by repeat (first | (with_reducible first | exact HB.out | apply below_alloc | apply pw_below_drewN | apply below_drew1) | exact HB.out))) : w.heap.size ≤ gb573)); have n3_ := Aside0.mk ((by rw [hg]; exact (below_size (by repeat (first | (with_reducible first | exact HB.out | apply below_alloc | apply pw_below_drewN | apply below_drew1) | exact HB.out))) : w.heap.size ≤ gb573)); clear HB; have HB := n0_; have BK573 := n1_; have GW573 := n2_; have GE573 := n3_; clear n0_ n1_ n2_ n3_; clear hb hbox hg; have hcz3_0 : w2.cell? ⟨gb573, 0, none⟩ = some (.int .u64 a0_0) := (blk_cell BK573.out 0).trans rfl; have hcz3_1 : w2.cell? ⟨gb573, 1, none⟩ = some (.int .u64 a0_1) := (blk_cell BK573.out 1).trans rfl; have hcz3_2 : w2.cell? ⟨gb573, 2, none⟩ = some (.int .u64 a0_2) := (blk_cell BK573.out 2).trans rfl; have hcz3_3 : w2.cell? ⟨gb573, 3, none⟩ = some (.string a0_3) := (blk_cell BK573.out 3).trans rfl; have hcz3_4 : w2.cell? ⟨gb573, 4, none⟩ = some (.string a0_4) := (blk_cell BK573.out 4).trans rfl; have hcz3_5 : w2.cell? ⟨gb573, 5, none⟩ = some (.string a0_5) := (blk_cell BK573.out 5).trans rfl; have hfz3_0 := blk_frozen BK573.out 0; have hfz3_1 := blk_frozen BK573.out 1; have hfz3_2 := blk_frozen BK573.out 2; have hfz3_3 := blk_frozen BK573.out 3; have hfz3_4 := blk_frozen BK573.out 4; have hfz3_5 := blk_frozen BK573.out 5))
  go_ret
  exact ⟨by first | rfl | (simp [errW_none, errW_some] <;> rfl) | (simp [*, errW_none, errW_some] <;> rfl) | (simp [bneNil]; done), by repeat (first | (with_reducible first | exact HB.out | apply below_alloc | apply pw_below_drewN | apply below_drew1 | refine below_set ?_ GE573.out) | exact HB.out)⟩

def semver_Version_Prerelease.f (a0_0 : Int) (a0_1 : Int) (a0_2 : Int) (a0_3 : ByteArray) (a0_4 : ByteArray) (a0_5 : ByteArray) : Option (ByteArray) := some a0_3

set_option maxHeartbeats 80000000 in
set_option maxRecDepth 100000 in
theorem semver_Version_Prerelease.calls (a0_0 : Int) (a0_1 : Int) (a0_2 : Int) (a0_3 : ByteArray) (a0_4 : ByteArray) (a0_5 : ByteArray) (r : ByteArray) (w : World) (h : semver_Version_Prerelease.f a0_0 a0_1 a0_2 a0_3 a0_4 a0_5 = some r) :
    Calls Tryd.prog 97 #[.agg #[.int .u64 a0_0, .int .u64 a0_1, .int .u64 a0_2, .string a0_3, .string a0_4, .string a0_5]] w fun e w' => e = .returned (.string r) ∧ Below w.heap.size w w' := by
  have hu106 := Tryd.underlying106
  have HB := Aside0.mk (Below.refl w.heap.size w)
  have H : (some a0_3) = some r := h
  clear h
  obtain rfl := Option.some.inj H
  go_enter Tryd.func97, Tryd.ntmps97
  go_wp2_with (first | ((with_reducible refine gate_dst (N := 1) rfl ?_); refine box_event ?hg (N := 1) ?hd (cs := #[.int .u64 a0_0, .int .u64 a0_1, .int .u64 a0_2, .string a0_3, .string a0_4, .string a0_5]) (t := 106) ?hr ?_; (case hd => rfl); (case hg => rfl); (case hr => first | (go_simp; done) | (go_simp; rfl) | (go_simp; simp [u8w]; done)); intro gb574 hg w2 hbox hb; have n0_ := Aside0.mk (below_step (by repeat (first | (with_reducible first | exact HB.out | apply below_alloc | apply pw_below_drewN | apply below_drew1) | exact HB.out)) hb); have n1_ := Aside0.mk (hbox); have n2_ := Aside0.mk ((by rw [hg]; exact (below_size (by repeat (first | (with_reducible first | exact HB.out | apply below_alloc | apply pw_below_drewN | apply below_drew1) | exact HB.out))) : w.heap.size ≤ gb574)); have n3_ := Aside0.mk ((by rw [hg]; exact (below_size (by repeat (first | (with_reducible first | exact HB.out | apply below_alloc | apply pw_below_drewN | apply below_drew1) | exact HB.out))) : w.heap.size ≤ gb574)); clear HB; have HB := n0_; have BK574 := n1_; have GW574 := n2_; have GE574 := n3_; clear n0_ n1_ n2_ n3_; clear hb hbox hg; have hcz3_0 : w2.cell? ⟨gb574, 0, none⟩ = some (.int .u64 a0_0) := (blk_cell BK574.out 0).trans rfl; have hcz3_1 : w2.cell? ⟨gb574, 1, none⟩ = some (.int .u64 a0_1) := (blk_cell BK574.out 1).trans rfl; have hcz3_2 : w2.cell? ⟨gb574, 2, none⟩ = some (.int .u64 a0_2) := (blk_cell BK574.out 2).trans rfl; have hcz3_3 : w2.cell? ⟨gb574, 3, none⟩ = some (.string a0_3) := (blk_cell BK574.out 3).trans rfl; have hcz3_4 : w2.cell? ⟨gb574, 4, none⟩ = some (.string a0_4) := (blk_cell BK574.out 4).trans rfl; have hcz3_5 : w2.cell? ⟨gb574, 5, none⟩ = some (.string a0_5) := (blk_cell BK574.out 5).trans rfl; have hfz3_0 := blk_frozen BK574.out 0; have hfz3_1 := blk_frozen BK574.out 1; have hfz3_2 := blk_frozen BK574.out 2; have hfz3_3 := blk_frozen BK574.out 3; have hfz3_4 := blk_frozen BK574.out 4; have hfz3_5 := blk_frozen BK574.out 5))
  go_ret
  exact ⟨by first | rfl | (simp [errW_none, errW_some] <;> rfl) | (simp [*, errW_none, errW_some] <;> rfl) | (simp [bneNil]; done), by repeat (first | (with_reducible first | exact HB.out | apply below_alloc | apply pw_below_drewN | apply below_drew1 | refine below_set ?_ GE574.out) | exact HB.out)⟩

def impl_operator.f (a0 : Int) : Option (ByteArray) := if (Go.bits .and .i64 a0 7) = 0 then (some (⟨#[61]⟩ : ByteArray)) else (if (Go.bits .and .i64 a0 7) = 1 then (some (⟨#[33, 61]⟩ : ByteArray)) else (if (Go.bits .and .i64 a0 7) = 2 then (some (⟨#[62]⟩ : ByteArray)) else (if (Go.bits .and .i64 a0 7) = 3 then (some (⟨#[60]⟩ : ByteArray)) else (if (Go.bits .and .i64 a0 7) = 4 then (some (⟨#[62, 61]⟩ : ByteArray)) else (if (Go.bits .and .i64 a0 7) = 5 then (some (⟨#[60, 61]⟩ : ByteArray)) else (if (Go.bits .and .i64 a0 7) = 6 then (some (⟨#[126]⟩ : ByteArray)) else (some (⟨#[94]⟩ : ByteArray))))))))

set_option maxHeartbeats 80000000 in
set_option maxRecDepth 100000 in
theorem impl_operator.calls (a0 : Int) (r : ByteArray) (w : World) (h : impl_operator.f a0 = some r) :
  Calls Tryd.prog 83 #[.int .i64 a0] w fun e w' => e = .returned (.string r) ∧ Drawn0 w w' := by
 have H : (if (Go.bits .and .i64 a0 7) = 0 then (some (⟨#[61]⟩ : ByteArray)) else (if (Go.bits .and .i64 a0 7) = 1 then (some (⟨#[33, 61]⟩ : ByteArray)) else (if (Go.bits .and .i64 a0 7) = 2 then (some (⟨#[62]⟩ : ByteArray)) else (if (Go.bits .and .i64 a0 7) = 3 then (some (⟨#[60]⟩ : ByteArray)) else (if (Go.bits .and .i64 a0 7) = 4 then (some (⟨#[62, 61]⟩ : ByteArray)) else (if (Go.bits .and .i64 a0 7) = 5 then (some (⟨#[60, 61]⟩ : ByteArray)) else (if (Go.bits .and .i64 a0 7) = 6 then (some (⟨#[126]⟩ : ByteArray)) else (some (⟨#[94]⟩ : ByteArray))))))))) = some r := h
 clear h
 by_cases c2 : (Go.bits .and .i64 a0 7) = 0
 ·
  rw [if_pos c2] at H
  have c2b0 : ((Go.bits .and .i64 a0 7) == 0) = true := beq_iff_eq.mpr c2
  have c2b1 : ((Go.bits .and .i64 a0 7) != 0) = false := bne_eq_false_iff_eq.mpr c2
  clear c2
  obtain rfl := Option.some.inj H
  go_enter Tryd.func83, Tryd.ntmps83
  go_wp2
  go_ret
  exact ⟨by first | rfl | (simp; done) | (simp [*]; done) | (simp [bneNil]; done), by repeat (first | exact Drawn0.refl _ | apply Drawn0.step)⟩
 ·
  rw [if_neg c2] at H
  have c2b0 : ((Go.bits .and .i64 a0 7) == 0) = false := beq_eq_false_iff_ne.mpr c2
  have c2b1 : ((Go.bits .and .i64 a0 7) != 0) = true := bne_iff_ne.mpr c2
  by_cases c3 : (Go.bits .and .i64 a0 7) = 1
  ·
   rw [if_pos c3] at H
   have c3b0 : ((Go.bits .and .i64 a0 7) == 1) = true := beq_iff_eq.mpr c3
   have c3b1 : ((Go.bits .and .i64 a0 7) != 1) = false := bne_eq_false_iff_eq.mpr c3
   clear c3
   obtain rfl := Option.some.inj H
   go_enter Tryd.func83, Tryd.ntmps83
   go_wp2
   go_ret
   exact ⟨by first | rfl | (simp; done) | (simp [*]; done) | (simp [bneNil]; done), by repeat (first | exact Drawn0.refl _ | apply Drawn0.step)⟩
  ·
   rw [if_neg c3] at H
   have c3b0 : ((Go.bits .and .i64 a0 7) == 1) = false := beq_eq_false_iff_ne.mpr c3
   have c3b1 : ((Go.bits .and .i64 a0 7) != 1) = true := bne_iff_ne.mpr c3
   by_cases c4 : (Go.bits .and .i64 a0 7) = 2
   ·
    rw [if_pos c4] at H
    have c4b0 : ((Go.bits .and .i64 a0 7) == 2) = true := beq_iff_eq.mpr c4
    have c4b1 : ((Go.bits .and .i64 a0 7) != 2) = false := bne_eq_false_iff_eq.mpr c4
    clear c4
    obtain rfl := Option.some.inj H
    go_enter Tryd.func83, Tryd.ntmps83
    go_wp2
    go_ret
    exact ⟨by first | rfl | (simp; done) | (simp [*]; done) | (simp [bneNil]; done), by repeat (first | exact Drawn0.refl _ | apply Drawn0.step)⟩
   ·
    rw [if_neg c4] at H
    have c4b0 : ((Go.bits .and .i64 a0 7) == 2) = false := beq_eq_false_iff_ne.mpr c4
    have c4b1 : ((Go.bits .and .i64 a0 7) != 2) = true := bne_iff_ne.mpr c4
    by_cases c5 : (Go.bits .and .i64 a0 7) = 3
    ·
     rw [if_pos c5] at H
     have c5b0 : ((Go.bits .and .i64 a0 7) == 3) = true := beq_iff_eq.mpr c5
     have c5b1 : ((Go.bits .and .i64 a0 7) != 3) = false := bne_eq_false_iff_eq.mpr c5
     clear c5
     obtain rfl := Option.some.inj H
     go_enter Tryd.func83, Tryd.ntmps83
     go_wp2
     go_ret
     exact ⟨by first | rfl | (simp; done) | (simp [*]; done) | (simp [bneNil]; done), by repeat (first | exact Drawn0.refl _ | apply Drawn0.step)⟩
    ·
     rw [if_neg c5] at H
     have c5b0 : ((Go.bits .and .i64 a0 7) == 3) = false := beq_eq_false_iff_ne.mpr c5
     have c5b1 : ((Go.bits .and .i64 a0 7) != 3) = true := bne_iff_ne.mpr c5
     by_cases c6 : (Go.bits .and .i64 a0 7) = 4
     ·
      rw [if_pos c6] at H
      have c6b0 : ((Go.bits .and .i64 a0 7) == 4) = true := beq_iff_eq.mpr c6
      have c6b1 : ((Go.bits .and .i64 a0 7) != 4) = false := bne_eq_false_iff_eq.mpr c6
      clear c6
      obtain rfl := Option.some.inj H
      go_enter Tryd.func83, Tryd.ntmps83
      go_wp2
      go_ret
      exact ⟨by first | rfl | (simp; done) | (simp [*]; done) | (simp [bneNil]; done), by repeat (first | exact Drawn0.refl _ | apply Drawn0.step)⟩
     ·
      rw [if_neg c6] at H
      have c6b0 : ((Go.bits .and .i64 a0 7) == 4) = false := beq_eq_false_iff_ne.mpr c6
      have c6b1 : ((Go.bits .and .i64 a0 7) != 4) = true := bne_iff_ne.mpr c6
      by_cases c7 : (Go.bits .and .i64 a0 7) = 5
      ·
       rw [if_pos c7] at H
       have c7b0 : ((Go.bits .and .i64 a0 7) == 5) = true := beq_iff_eq.mpr c7
       have c7b1 : ((Go.bits .and .i64 a0 7) != 5) = false := bne_eq_false_iff_eq.mpr c7
       clear c7
       obtain rfl := Option.some.inj H
       go_enter Tryd.func83, Tryd.ntmps83
       go_wp2
       go_ret
       exact ⟨by first | rfl | (simp; done) | (simp [*]; done) | (simp [bneNil]; done), by repeat (first | exact Drawn0.refl _ | apply Drawn0.step)⟩
      ·
       rw [if_neg c7] at H
       have c7b0 : ((Go.bits .and .i64 a0 7) == 5) = false := beq_eq_false_iff_ne.mpr c7
       have c7b1 : ((Go.bits .and .i64 a0 7) != 5) = true := bne_iff_ne.mpr c7
       by_cases c8 : (Go.bits .and .i64 a0 7) = 6
       ·
        rw [if_pos c8] at H
        have c8b0 : ((Go.bits .and .i64 a0 7) == 6) = true := beq_iff_eq.mpr c8
        have c8b1 : ((Go.bits .and .i64 a0 7) != 6) = false := bne_eq_false_iff_eq.mpr c8
        clear c8
        obtain rfl := Option.some.inj H
        go_enter Tryd.func83, Tryd.ntmps83
        go_wp2
        go_ret
        exact ⟨by first | rfl | (simp; done) | (simp [*]; done) | (simp [bneNil]; done), by repeat (first | exact Drawn0.refl _ | apply Drawn0.step)⟩
       ·
        rw [if_neg c8] at H
        have c8b0 : ((Go.bits .and .i64 a0 7) == 6) = false := beq_eq_false_iff_ne.mpr c8
        have c8b1 : ((Go.bits .and .i64 a0 7) != 6) = true := bne_iff_ne.mpr c8
        obtain rfl := Option.some.inj H
        go_enter Tryd.func83, Tryd.ntmps83
        go_wp2
        go_ret
        exact ⟨by first | rfl | (simp; done) | (simp [*]; done) | (simp [bneNil]; done), by repeat (first | exact Drawn0.refl _ | apply Drawn0.step)⟩

end Go.Proofs.YtllkoadcpobdaaaDoor.PX
