/- The row and the tied card of FnMatchClasses, out of its printed walk and its plain law. For every input that the statement lets in. -/
import Derived.Test.YtmlcpnehihmhaaaDoorZCardMatchClasses11
import Derived.Test.YtmlcpnehihmhaaaDoorZCardMatchClasses12
namespace Go.Proofs.YtmlcpnehihmhaaaDoor.Bt
end Go.Proofs.YtmlcpnehihmhaaaDoor.Bt
namespace Go.Proofs.YtmlcpnehihmhaaaDoor.L
end Go.Proofs.YtmlcpnehihmhaaaDoor.L
namespace Go.Proofs.YtmlcpnehihmhaaaDoor.Mt
end Go.Proofs.YtmlcpnehihmhaaaDoor.Mt
namespace Go.Proofs.YtmlcpnehihmhaaaDoor.PX
end Go.Proofs.YtmlcpnehihmhaaaDoor.PX
namespace Go.Proofs.YtmlcpnehihmhaaaDoor.PX

open Go.RowKit Go.Proofs.YtmlcpnehihmhaaaDoorW.PrintWords Go.Proofs.YtmlcpnehihmhaaaDoorW.PrintLast Go.Proofs.YtmlcpnehihmhaaaDoorW.PrintMore

attribute [local go_sem] max2_int min2_int max_two min_two max_three min_three max_four min_four   -- for this text's walks alone

set_option linter.unusedVariables false

set_option linter.unusedSimpArgs false

mutual
def laws_FnMatchClasses.j0 : Nat → List Int → List Int → ByteArray → Bool → Option (Bool)
  | 0, _, _, _, _ => none
  | k + 1, x0, x1, x2, x27 => if x27 = true then (some true) else (if (x0.length : Int) = (x1.length : Int) then (if (x0.length : Int) = 0 then (laws_FnMatchClasses.j1 k x0 x1 x2 true) else (if (x0.length : Int) > 10 then (laws_FnMatchClasses.j1 k x0 x1 x2 true) else ((laws_matchAsked.f k x2 (([strOfNums x0, strOfNums x1] : List ByteArray))).bind fun t107 => (if t107 = true then ((spec_RefFirst.f k x2 47).bind fun t108 => (laws_FnMatchClasses.j1 k x0 x1 x2 (decide (t108 ≥ 0)))) else (laws_FnMatchClasses.j1 k x0 x1 x2 true))))) else (laws_FnMatchClasses.j1 k x0 x1 x2 true))
def laws_FnMatchClasses.j1 : Nat → List Int → List Int → ByteArray → Bool → Option (Bool)
  | 0, _, _, _, _ => none
  | k + 1, x0, x1, x2, x57 => if x57 = true then (some true) else (laws_FnMatchClasses.l0 k x0 x1 x2 (⟨#[91]⟩ : ByteArray) false (x0.length : Int) 0)
def laws_FnMatchClasses.l0 : Nat → List Int → List Int → ByteArray → ByteArray → Bool → Int → Int → Option (Bool)
  | 0, _, _, _, _, _, _, _ => none
  | k + 1, x0, x1, x2, x7, x8, x59, x60 => if x60 < x59 then (if 0 ≤ x60 then (if x60 ≤ (wrap64 (x60 + 1)) then (if (wrap64 (x60 + 1)) ≤ (x0.length : Int) then (if 1 + (strOfNums ((x0.take ((wrap64 (x60 + 1)) : Int).toNat).drop (x60 : Int).toNat)).size ≤ 9223372036854775807 then (if ((⟨#[92]⟩ : ByteArray) ++ (strOfNums ((x0.take ((wrap64 (x60 + 1)) : Int).toNat).drop (x60 : Int).toNat))).size + 2 ≤ 9223372036854775807 then (if (wrap64 (x60 + 1)) ≤ (x1.length : Int) then (if (((⟨#[92]⟩ : ByteArray) ++ (strOfNums ((x0.take ((wrap64 (x60 + 1)) : Int).toNat).drop (x60 : Int).toNat))) ++ (⟨#[45, 92]⟩ : ByteArray)).size + (strOfNums ((x1.take ((wrap64 (x60 + 1)) : Int).toNat).drop (x60 : Int).toNat)).size ≤ 9223372036854775807 then (if 1 + ((((⟨#[92]⟩ : ByteArray) ++ (strOfNums ((x0.take ((wrap64 (x60 + 1)) : Int).toNat).drop (x60 : Int).toNat))) ++ (⟨#[45, 92]⟩ : ByteArray)) ++ (strOfNums ((x1.take ((wrap64 (x60 + 1)) : Int).toNat).drop (x60 : Int).toNat))).size ≤ 9223372036854775807 then (if ((⟨#[91]⟩ : ByteArray) ++ ((((⟨#[92]⟩ : ByteArray) ++ (strOfNums ((x0.take ((wrap64 (x60 + 1)) : Int).toNat).drop (x60 : Int).toNat))) ++ (⟨#[45, 92]⟩ : ByteArray)) ++ (strOfNums ((x1.take ((wrap64 (x60 + 1)) : Int).toNat).drop (x60 : Int).toNat)))).size + 1 ≤ 9223372036854775807 then ((laws_matchName.f (((⟨#[91]⟩ : ByteArray) ++ ((((⟨#[92]⟩ : ByteArray) ++ (strOfNums ((x0.take ((wrap64 (x60 + 1)) : Int).toNat).drop (x60 : Int).toNat))) ++ (⟨#[45, 92]⟩ : ByteArray)) ++ (strOfNums ((x1.take ((wrap64 (x60 + 1)) : Int).toNat).drop (x60 : Int).toNat)))) ++ (⟨#[93]⟩ : ByteArray)) x2).bind fun bt111 => (if bt111.2 = true then (if x8 = true then (if x7.size + ((((⟨#[92]⟩ : ByteArray) ++ (strOfNums ((x0.take ((wrap64 (x60 + 1)) : Int).toNat).drop (x60 : Int).toNat))) ++ (⟨#[45, 92]⟩ : ByteArray)) ++ (strOfNums ((x1.take ((wrap64 (x60 + 1)) : Int).toNat).drop (x60 : Int).toNat))).size ≤ 9223372036854775807 then (laws_FnMatchClasses.l0 k x0 x1 x2 (x7 ++ ((((⟨#[92]⟩ : ByteArray) ++ (strOfNums ((x0.take ((wrap64 (x60 + 1)) : Int).toNat).drop (x60 : Int).toNat))) ++ (⟨#[45, 92]⟩ : ByteArray)) ++ (strOfNums ((x1.take ((wrap64 (x60 + 1)) : Int).toNat).drop (x60 : Int).toNat)))) true x59 (wrap64 (x60 + 1))) else (none)) else (if x7.size + ((((⟨#[92]⟩ : ByteArray) ++ (strOfNums ((x0.take ((wrap64 (x60 + 1)) : Int).toNat).drop (x60 : Int).toNat))) ++ (⟨#[45, 92]⟩ : ByteArray)) ++ (strOfNums ((x1.take ((wrap64 (x60 + 1)) : Int).toNat).drop (x60 : Int).toNat))).size ≤ 9223372036854775807 then (laws_FnMatchClasses.l0 k x0 x1 x2 (x7 ++ ((((⟨#[92]⟩ : ByteArray) ++ (strOfNums ((x0.take ((wrap64 (x60 + 1)) : Int).toNat).drop (x60 : Int).toNat))) ++ (⟨#[45, 92]⟩ : ByteArray)) ++ (strOfNums ((x1.take ((wrap64 (x60 + 1)) : Int).toNat).drop (x60 : Int).toNat)))) bt111.1 x59 (wrap64 (x60 + 1))) else (none))) else (some false))) else (none)) else (none)) else (none)) else (none)) else (none)) else (none)) else (none)) else (none)) else (none)) else (if x7.size + 1 ≤ 9223372036854775807 then ((laws_matchName.f (x7 ++ (⟨#[93]⟩ : ByteArray)) x2).bind fun bt113 => (if bt113.2 = true then (some (bt113.1 == x8)) else (some false))) else (none))
end

def laws_FnMatchClasses.f (k : Nat) (l0 : List Int) (l1 : List Int) (a2 : ByteArray) : Option (Bool) := if (l0.length : Int) > 2147483647 then (laws_FnMatchClasses.j0 k l0 l1 a2 true) else (if (l1.length : Int) > 2147483647 then (laws_FnMatchClasses.j0 k l0 l1 a2 true) else (laws_FnMatchClasses.j0 k l0 l1 a2 (decide ((a2.size : Int) > 2147483647))))

set_option maxHeartbeats 80000000 in
set_option maxRecDepth 100000 in
theorem laws_FnMatchClasses.calls (k : Nat) (A0 : Option Addr) (c0 : Nat) (l0 : List Int) (A1 : Option Addr) (c1 : Nat) (l1 : List Int) (a2 : ByteArray) (r : Bool) (w : World) (hr0 : Kd.C (Kd.int .u8) w A0 l0.length l0) (hc0 : l0.length ≤ c0) (hr1 : Kd.C (Kd.int .u8) w A1 l1.length l1) (hc1 : l1.length ≤ c1) (h : laws_FnMatchClasses.f k l0 l1 a2 = some r) :
  Calls Tryd.prog 3 #[.slice A0 l0.length c0, .slice A1 l1.length c1, .string a2] w fun e w' => e = .returned (.bool r) ∧ Below w.heap.size w w' := by
 have HR0 := Aside0.mk hr0
 have HC0 := Aside0.mk hc0
 clear hr0 hc0
 have HR1 := Aside0.mk hr1
 have HC1 := Aside0.mk hc1
 clear hr1 hc1
 have HB := Aside0.mk (Below.refl w.heap.size w)
 have H : (if (l0.length : Int) > 2147483647 then (laws_FnMatchClasses.j0 k l0 l1 a2 true) else (if (l1.length : Int) > 2147483647 then (laws_FnMatchClasses.j0 k l0 l1 a2 true) else (laws_FnMatchClasses.j0 k l0 l1 a2 (decide ((a2.size : Int) > 2147483647))))) = some r := h
 clear h
 have HC4 := Aside0.mk H
 clear H
 go_enter Tryd.func3, Tryd.ntmps3
 go_upto_region 1 with (fail)
 repeat (go_quiet (fail); go_upto_region 1 with (fail))
 go_cut [27] (fun v27 wc => ∃ (kq : Nat) (x27_3 : Bool), v27 = .bool x27_3 ∧ Aside0 (laws_FnMatchClasses.j0 kq l0 l1 a2 x27_3 = some r) ∧ Aside0 (kq ≤ k) ∧ Aside0 (Below w.heap.size w wc))
 case first =>
  have H := HC4.out
  clear HC4
  by_cases c5 : (l0.length : Int) > 2147483647
  ·
   rw [if_pos c5] at H
   have c5b0 : decide (2147483647 < (l0.length : Int)) = true := decide_eq_true c5
   have c5b1 : decide (2147483647 < l0.length) = true := decide_eq_true (by omega)
   clear c5
   (first | rw [c5b0] | (simp only [i64_w, i32_w]; rw [c5b0]) | skip)
   have H' := Aside0.mk H
   clear H
   go_wp2
   repeat (go_quiet (fail); try go_wp2)
   go_meet
   case rel => exact ⟨_, (true), (by first | rfl | (simp; done) | (simp [*]; done)), H', ⟨by first | omega | exact Nat.le_refl _⟩, ⟨by repeat (first | (with_reducible first | exact HB.out | apply below_alloc | apply pw_below_drewN | apply below_drew1) | exact HB.out)⟩⟩
  ·
   rw [if_neg c5] at H
   have c5b0 : decide (2147483647 < (l0.length : Int)) = false := decide_eq_false c5
   have c5b1 : decide (2147483647 < l0.length) = false := decide_eq_false (by omega)
   clear c5
   (first | rw [c5b0] | (simp only [i64_w, i32_w]; rw [c5b0]) | skip)
   by_cases c6 : (l1.length : Int) > 2147483647
   ·
    rw [if_pos c6] at H
    have c6b0 : decide (2147483647 < (l1.length : Int)) = true := decide_eq_true c6
    have c6b1 : decide (2147483647 < l1.length) = true := decide_eq_true (by omega)
    clear c6
    have H' := Aside0.mk H
    clear H
    go_wp2
    repeat (go_quiet (fail); try go_wp2)
    go_meet
    case rel => exact ⟨_, (true), (by first | rfl | (simp; done) | (simp [*]; done)), H', ⟨by first | omega | exact Nat.le_refl _⟩, ⟨by repeat (first | (with_reducible first | exact HB.out | apply below_alloc | apply pw_below_drewN | apply below_drew1) | exact HB.out)⟩⟩
   ·
    rw [if_neg c6] at H
    have c6b0 : decide (2147483647 < (l1.length : Int)) = false := decide_eq_false c6
    have c6b1 : decide (2147483647 < l1.length) = false := decide_eq_false (by omega)
    clear c6
    have H' := Aside0.mk H
    clear H
    go_wp2
    repeat (go_quiet (fail); try go_wp2)
    go_meet
    case rel => exact ⟨_, (decide ((a2.size : Int) > 2147483647)), (by first | rfl | (simp; done) | (simp [*]; done)), H', ⟨by first | omega | exact Nat.le_refl _⟩, ⟨by repeat (first | (with_reducible first | exact HB.out | apply below_alloc | apply pw_below_drewN | apply below_drew1) | exact HB.out)⟩⟩
 case rest =>
  clear HC4
  try clear c1
  try clear p2
  try clear c3
  try clear c5
  try clear c5b0
  try clear c5b1
  try clear c6
  try clear c6b0
  try clear c6b1
  obtain ⟨kq, x27_3, rfl, HA, HJ3, HB⟩ := hcut
  cases kq with
  | zero => exact absurd HA.out (by simp [laws_FnMatchClasses.j0])
  | succ kj3 =>
   have H := HA.out
   clear HA
   simp only [laws_FnMatchClasses.j0] at H
   by_cases c7 : x27_3 = true
   ·
    subst c7
    have H1 : (some true) = some r := by rw [if_pos rfl] at H; exact H
    clear H
    have H := H1
    clear H1
    obtain rfl := Option.some.inj H
    go_wp2
    repeat (go_quiet (fail); try go_wp2)
    go_ret
    exact ⟨by first | rfl | (simp [errW_none, errW_some] <;> rfl) | (simp [*, errW_none, errW_some] <;> rfl) | (simp [bneNil]; done), by repeat (first | (with_reducible first | exact HB.out | apply below_alloc | apply pw_below_drewN | apply below_drew1) | exact HB.out)⟩
   ·
    replace c7 := Bool.eq_false_iff.mpr c7
    subst c7
    have H1 : (if (l0.length : Int) = (l1.length : Int) then (if (l0.length : Int) = 0 then (laws_FnMatchClasses.j1 kj3 l0 l1 a2 true) else (if (l0.length : Int) > 10 then (laws_FnMatchClasses.j1 kj3 l0 l1 a2 true) else ((laws_matchAsked.f kj3 a2 (([strOfNums l0, strOfNums l1] : List ByteArray))).bind fun t107 => (if t107 = true then ((spec_RefFirst.f kj3 a2 47).bind fun t108 => (laws_FnMatchClasses.j1 kj3 l0 l1 a2 (decide (t108 ≥ 0)))) else (laws_FnMatchClasses.j1 kj3 l0 l1 a2 true))))) else (laws_FnMatchClasses.j1 kj3 l0 l1 a2 true)) = some r := by rw [if_neg (show ¬ (false = true) by decide)] at H; exact H
    clear H
    have H := H1
    clear H1
    have HC8 := Aside0.mk H
    clear H
    go_upto_region 3 with (fail)
    repeat (go_quiet (fail); go_upto_region 3 with (fail))
    go_cut [57] (fun v57 wc => ∃ (kq : Nat) (x57_7 : Bool), v57 = .bool x57_7 ∧ Aside0 (laws_FnMatchClasses.j1 kq l0 l1 a2 x57_7 = some r) ∧ Aside0 (kq ≤ kj3) ∧ Aside0 (Below w.heap.size w wc))
    case first =>
     have H := HC8.out
     clear HC8
     by_cases c9 : (l0.length : Int) = (l1.length : Int)
     ·
      rw [if_pos c9] at H
      have c9b0 : ((l0.length : Int) == (l1.length : Int)) = true := beq_iff_eq.mpr c9
      have c9b1 : ((l0.length : Int) != (l1.length : Int)) = false := bne_eq_false_iff_eq.mpr c9
      have c9b2 : (l0.length == l1.length) = true := by first | simpa using c9 | (simp at c9 ⊢; omega)
      clear c9
      (first | rw [c9b0] | (simp only [i64_w, i32_w]; rw [c9b0]) | skip)
      by_cases c10 : (l0.length : Int) = 0
      ·
       rw [if_pos c10] at H
       have c10b0 : ((l0.length : Int) == 0) = true := beq_iff_eq.mpr c10
       have c10b1 : ((l0.length : Int) != 0) = false := bne_eq_false_iff_eq.mpr c10
       clear c10
       have H' := Aside0.mk H
       clear H
       go_wp2
       repeat (go_quiet (fail); try go_wp2)
       go_meet
       case rel => exact ⟨_, (true), (by first | rfl | (simp; done) | (simp [*]; done)), H', ⟨by have := HJ3.out; first | omega | exact Nat.le_refl _⟩, ⟨by repeat (first | (with_reducible first | exact HB.out | apply below_alloc | apply pw_below_drewN | apply below_drew1) | exact HB.out)⟩⟩
      ·
       rw [if_neg c10] at H
       have c10b0 : ((l0.length : Int) == 0) = false := beq_eq_false_iff_ne.mpr c10
       have c10b1 : ((l0.length : Int) != 0) = true := bne_iff_ne.mpr c10
       have c10b2 : ¬ (l0 = []) := fun h_ => c10 (by rw [h_]; rfl)
       by_cases c11 : (l0.length : Int) > 10
       ·
        rw [if_pos c11] at H
        have c11b0 : decide (10 < (l0.length : Int)) = true := decide_eq_true c11
        have c11b1 : decide (10 < l0.length) = true := decide_eq_true (by omega)
        clear c11
        have H' := Aside0.mk H
        clear H
        go_wp2
        repeat (go_quiet (fail); try go_wp2)
        go_meet
        case rel => exact ⟨_, (true), (by first | rfl | (simp; done) | (simp [*]; done)), H', ⟨by have := HJ3.out; first | omega | exact Nat.le_refl _⟩, ⟨by repeat (first | (with_reducible first | exact HB.out | apply below_alloc | apply pw_below_drewN | apply below_drew1) | exact HB.out)⟩⟩
       ·
        rw [if_neg c11] at H
        have c11b0 : decide (10 < (l0.length : Int)) = false := decide_eq_false c11
        have c11b1 : decide (10 < l0.length) = false := decide_eq_false (by omega)
        clear c11
        obtain ⟨y104, hy104⟩ : ∃ y_ : List ByteArray, y_ = (([strOfNums l0, strOfNums l1] : List ByteArray)) := ⟨_, rfl⟩
        replace H : ((laws_matchAsked.f kj3 a2 y104).bind fun t107 => (if t107 = true then ((spec_RefFirst.f kj3 a2 47).bind fun t108 => (laws_FnMatchClasses.j1 kj3 l0 l1 a2 (decide (t108 ≥ 0)))) else (laws_FnMatchClasses.j1 kj3 l0 l1 a2 true))) = some r := by first | (rw [hy104]; with_reducible exact H) | (have H2_ := (Option.bind_some _ _).symm.trans H; rw [hy104]; with_reducible exact H2_) | (have H2_ := (Option.bind_some _ _).symm.trans H; with_reducible exact H2_) | with_reducible exact H | (rw [hy104]; exact H) | exact H
        have Ny104 := Aside0.mk hy104
        clear hy104
        replace H := Option.bind_eq_some_iff.mp H
        obtain ⟨t107, A120, H⟩ := H
        replace H : (if t107 = true then ((spec_RefFirst.f kj3 a2 47).bind fun t108 => (laws_FnMatchClasses.j1 kj3 l0 l1 a2 (decide (t108 ≥ 0)))) else (laws_FnMatchClasses.j1 kj3 l0 l1 a2 true)) = some r := H
        have A12 := Aside0.mk A120
        clear A120
        by_cases c13 : t107 = true
        ·
         subst c13
         have H1 : ((spec_RefFirst.f kj3 a2 47).bind fun t108 => (laws_FnMatchClasses.j1 kj3 l0 l1 a2 (decide (t108 ≥ 0)))) = some r := by rw [if_pos rfl] at H; exact H
         clear H
         have H := H1
         clear H1
         replace H := Option.bind_eq_some_iff.mp H
         obtain ⟨t108, A140, H⟩ := H
         replace H : (laws_FnMatchClasses.j1 kj3 l0 l1 a2 (decide (t108 ≥ 0))) = some r := H
         have A14 := Aside0.mk A140
         clear A140
         have H' := Aside0.mk H
         clear H
         have hcv15 := Kd.C_string (P := Tryd.prog) (A := A0) (c := c0) Tryd.underlying22 Tryd.underlying5 Tryd.underlying9 (Kd.C_below HR0.out HB.out)
         have hcv16 := Kd.C_string (P := Tryd.prog) (A := A1) (c := c1) Tryd.underlying22 Tryd.underlying5 Tryd.underlying9 (Kd.C_below HR1.out HB.out)
         go_wp2_with (first | ((with_reducible refine gate_dst (N := 49) rfl ?_); (try (refine gate_guard (by rfl) ?_; dsimp only)); refine Kd.R_lit Kd.string _ 9 ?hg (N := 49) ?hd (xs := ([strOfNums l0, strOfNums l1] : List ByteArray)) (inner := [.string (strOfNums l0), .string (strOfNums l1)]) (ok := fun _ => True) (okp := fun _ => True) ?hr ?hp (fun _ hk => hk) trivial (Below.refl _ _) (Nat.le_refl _) (by simp) ?_; (case hd => rfl); (case hg => rfl); (case hr => first | (go_simp; done) | (go_simp; rfl) | (go_simp; simp [u8w]; done)); (case hp => exact (Reps.one (show Kd.M Kd.string _ _ _ (strOfNums l0) [.string (strOfNums l0)] from rfl) (Reps.one (show Kd.M Kd.string _ _ _ (strOfNums l1) [.string (strOfNums l1)] from rfl) (Reps.none _ _)))); intro v105 w17 ho18 hb hg_ hnew_; clear hg_ hnew_; (first | rw [← Ny104.out] at ho18 | (simp only [Int.reduceToNat] at ho18; rw [← Ny104.out] at ho18)); have n0_ := Aside0.mk (Kd.R_lower ho18 (below_size (by repeat (first | (with_reducible first | exact HB.out | apply below_alloc | apply pw_below_drewN | apply below_drew1) | exact HB.out)))); have n1_ := Aside0.mk (below_step (by repeat (first | (with_reducible first | exact HB.out | apply below_alloc | apply pw_below_drewN | apply below_drew1) | exact HB.out)) hb); clear HB; have HO106 := n0_; have HB := n1_; clear n0_ n1_; clear hb ho18; obtain ⟨Ao19, co19, eo19⟩ := Kd.R_slice HO106.out; subst eo19) | (go_at_call 4; (with_reducible refine (laws_matchAsked.calls kj3 a2 _ _ y104 true _ ?side1 ?side2 A12.out).mono ?_); (case side1 => repeat (first | exact (Kd.R_reads' HO106.out).2.2 | (with_reducible refine Kd.C_alloc ?_ _) | (with_reducible refine Kd.C_drewN ?_ _) | (with_reducible refine Kd.C_drew ?_))); (case side2 => exact (Kd.R_reads' HO106.out).2.1); rintro e w' ⟨rfl, ⟨nd, rfl⟩⟩; (try first | exact ⟨rfl, _, World.drewN_drewN _ _ _⟩ | exact ⟨rfl, _, Eq.trans (World.drewN_drewN _ _ _) (congrArg (World.drewN _) (Nat.add_assoc _ _ _))⟩)) | (go_at_call 5; (with_reducible refine (spec_RefFirst.calls kj3 a2 47 t108 _ A14.out).mono ?_); rintro e w' ⟨rfl, ⟨nd, rfl⟩⟩; (try first | exact ⟨rfl, _, World.drewN_drewN _ _ _⟩ | exact ⟨rfl, _, Eq.trans (World.drewN_drewN _ _ _) (congrArg (World.drewN _) (Nat.add_assoc _ _ _))⟩)))
         repeat (go_quiet (first | ((with_reducible refine gate_dst (N := 49) rfl ?_); (try (refine gate_guard (by rfl) ?_; dsimp only)); refine Kd.R_lit Kd.string _ 9 ?hg (N := 49) ?hd (xs := ([strOfNums l0, strOfNums l1] : List ByteArray)) (inner := [.string (strOfNums l0), .string (strOfNums l1)]) (ok := fun _ => True) (okp := fun _ => True) ?hr ?hp (fun _ hk => hk) trivial (Below.refl _ _) (Nat.le_refl _) (by simp) ?_; (case hd => rfl); (case hg => rfl); (case hr => first | (go_simp; done) | (go_simp; rfl) | (go_simp; simp [u8w]; done)); (case hp => exact (Reps.one (show Kd.M Kd.string _ _ _ (strOfNums l0) [.string (strOfNums l0)] from rfl) (Reps.one (show Kd.M Kd.string _ _ _ (strOfNums l1) [.string (strOfNums l1)] from rfl) (Reps.none _ _)))); intro v105 w17 ho18 hb hg_ hnew_; clear hg_ hnew_; (first | rw [← Ny104.out] at ho18 | (simp only [Int.reduceToNat] at ho18; rw [← Ny104.out] at ho18)); have n0_ := Aside0.mk (Kd.R_lower ho18 (below_size (by repeat (first | (with_reducible first | exact HB.out | apply below_alloc | apply pw_below_drewN | apply below_drew1) | exact HB.out)))); have n1_ := Aside0.mk (below_step (by repeat (first | (with_reducible first | exact HB.out | apply below_alloc | apply pw_below_drewN | apply below_drew1) | exact HB.out)) hb); clear HB; have HO106 := n0_; have HB := n1_; clear n0_ n1_; clear hb ho18; obtain ⟨Ao19, co19, eo19⟩ := Kd.R_slice HO106.out; subst eo19) | (go_at_call 4; (with_reducible refine (laws_matchAsked.calls kj3 a2 _ _ y104 true _ ?side1 ?side2 A12.out).mono ?_); (case side1 => repeat (first | exact (Kd.R_reads' HO106.out).2.2 | (with_reducible refine Kd.C_alloc ?_ _) | (with_reducible refine Kd.C_drewN ?_ _) | (with_reducible refine Kd.C_drew ?_))); (case side2 => exact (Kd.R_reads' HO106.out).2.1); rintro e w' ⟨rfl, ⟨nd, rfl⟩⟩; (try first | exact ⟨rfl, _, World.drewN_drewN _ _ _⟩ | exact ⟨rfl, _, Eq.trans (World.drewN_drewN _ _ _) (congrArg (World.drewN _) (Nat.add_assoc _ _ _))⟩)) | (go_at_call 5; (with_reducible refine (spec_RefFirst.calls kj3 a2 47 t108 _ A14.out).mono ?_); rintro e w' ⟨rfl, ⟨nd, rfl⟩⟩; (try first | exact ⟨rfl, _, World.drewN_drewN _ _ _⟩ | exact ⟨rfl, _, Eq.trans (World.drewN_drewN _ _ _) (congrArg (World.drewN _) (Nat.add_assoc _ _ _))⟩))); try go_wp2_with (first | ((with_reducible refine gate_dst (N := 49) rfl ?_); (try (refine gate_guard (by rfl) ?_; dsimp only)); refine Kd.R_lit Kd.string _ 9 ?hg (N := 49) ?hd (xs := ([strOfNums l0, strOfNums l1] : List ByteArray)) (inner := [.string (strOfNums l0), .string (strOfNums l1)]) (ok := fun _ => True) (okp := fun _ => True) ?hr ?hp (fun _ hk => hk) trivial (Below.refl _ _) (Nat.le_refl _) (by simp) ?_; (case hd => rfl); (case hg => rfl); (case hr => first | (go_simp; done) | (go_simp; rfl) | (go_simp; simp [u8w]; done)); (case hp => exact (Reps.one (show Kd.M Kd.string _ _ _ (strOfNums l0) [.string (strOfNums l0)] from rfl) (Reps.one (show Kd.M Kd.string _ _ _ (strOfNums l1) [.string (strOfNums l1)] from rfl) (Reps.none _ _)))); intro v105 w17 ho18 hb hg_ hnew_; clear hg_ hnew_; (first | rw [← Ny104.out] at ho18 | (simp only [Int.reduceToNat] at ho18; rw [← Ny104.out] at ho18)); have n0_ := Aside0.mk (Kd.R_lower ho18 (below_size (by repeat (first | (with_reducible first | exact HB.out | apply below_alloc | apply pw_below_drewN | apply below_drew1) | exact HB.out)))); have n1_ := Aside0.mk (below_step (by repeat (first | (with_reducible first | exact HB.out | apply below_alloc | apply pw_below_drewN | apply below_drew1) | exact HB.out)) hb); clear HB; have HO106 := n0_; have HB := n1_; clear n0_ n1_; clear hb ho18; obtain ⟨Ao19, co19, eo19⟩ := Kd.R_slice HO106.out; subst eo19) | (go_at_call 4; (with_reducible refine (laws_matchAsked.calls kj3 a2 _ _ y104 true _ ?side1 ?side2 A12.out).mono ?_); (case side1 => repeat (first | exact (Kd.R_reads' HO106.out).2.2 | (with_reducible refine Kd.C_alloc ?_ _) | (with_reducible refine Kd.C_drewN ?_ _) | (with_reducible refine Kd.C_drew ?_))); (case side2 => exact (Kd.R_reads' HO106.out).2.1); rintro e w' ⟨rfl, ⟨nd, rfl⟩⟩; (try first | exact ⟨rfl, _, World.drewN_drewN _ _ _⟩ | exact ⟨rfl, _, Eq.trans (World.drewN_drewN _ _ _) (congrArg (World.drewN _) (Nat.add_assoc _ _ _))⟩)) | (go_at_call 5; (with_reducible refine (spec_RefFirst.calls kj3 a2 47 t108 _ A14.out).mono ?_); rintro e w' ⟨rfl, ⟨nd, rfl⟩⟩; (try first | exact ⟨rfl, _, World.drewN_drewN _ _ _⟩ | exact ⟨rfl, _, Eq.trans (World.drewN_drewN _ _ _) (congrArg (World.drewN _) (Nat.add_assoc _ _ _))⟩))))
         go_meet
         case rel => exact ⟨_, (decide (t108 ≥ 0)), (by first | rfl | (simp; done) | (simp [*]; done)), H', ⟨by have := HJ3.out; first | omega | exact Nat.le_refl _⟩, ⟨by repeat (first | (with_reducible first | exact HB.out | apply below_alloc | apply pw_below_drewN | apply below_drew1) | exact HB.out)⟩⟩
        ·
         replace c13 := Bool.eq_false_iff.mpr c13
         subst c13
         have H1 : (laws_FnMatchClasses.j1 kj3 l0 l1 a2 true) = some r := by rw [if_neg (show ¬ (false = true) by decide)] at H; exact H
         clear H
         have H := H1
         clear H1
         have H' := Aside0.mk H
         clear H
         have hcv20 := Kd.C_string (P := Tryd.prog) (A := A0) (c := c0) Tryd.underlying22 Tryd.underlying5 Tryd.underlying9 (Kd.C_below HR0.out HB.out)
         have hcv21 := Kd.C_string (P := Tryd.prog) (A := A1) (c := c1) Tryd.underlying22 Tryd.underlying5 Tryd.underlying9 (Kd.C_below HR1.out HB.out)
         go_wp2_with (first | ((with_reducible refine gate_dst (N := 49) rfl ?_); (try (refine gate_guard (by rfl) ?_; dsimp only)); refine Kd.R_lit Kd.string _ 9 ?hg (N := 49) ?hd (xs := ([strOfNums l0, strOfNums l1] : List ByteArray)) (inner := [.string (strOfNums l0), .string (strOfNums l1)]) (ok := fun _ => True) (okp := fun _ => True) ?hr ?hp (fun _ hk => hk) trivial (Below.refl _ _) (Nat.le_refl _) (by simp) ?_; (case hd => rfl); (case hg => rfl); (case hr => first | (go_simp; done) | (go_simp; rfl) | (go_simp; simp [u8w]; done)); (case hp => exact (Reps.one (show Kd.M Kd.string _ _ _ (strOfNums l0) [.string (strOfNums l0)] from rfl) (Reps.one (show Kd.M Kd.string _ _ _ (strOfNums l1) [.string (strOfNums l1)] from rfl) (Reps.none _ _)))); intro v105 w22 ho23 hb hg_ hnew_; clear hg_ hnew_; (first | rw [← Ny104.out] at ho23 | (simp only [Int.reduceToNat] at ho23; rw [← Ny104.out] at ho23)); have n0_ := Aside0.mk (Kd.R_lower ho23 (below_size (by repeat (first | (with_reducible first | exact HB.out | apply below_alloc | apply pw_below_drewN | apply below_drew1) | exact HB.out)))); have n1_ := Aside0.mk (below_step (by repeat (first | (with_reducible first | exact HB.out | apply below_alloc | apply pw_below_drewN | apply below_drew1) | exact HB.out)) hb); clear HB; have HO106 := n0_; have HB := n1_; clear n0_ n1_; clear hb ho23; obtain ⟨Ao24, co24, eo24⟩ := Kd.R_slice HO106.out; subst eo24) | (go_at_call 4; (with_reducible refine (laws_matchAsked.calls kj3 a2 _ _ y104 false _ ?side1 ?side2 A12.out).mono ?_); (case side1 => repeat (first | exact (Kd.R_reads' HO106.out).2.2 | (with_reducible refine Kd.C_alloc ?_ _) | (with_reducible refine Kd.C_drewN ?_ _) | (with_reducible refine Kd.C_drew ?_))); (case side2 => exact (Kd.R_reads' HO106.out).2.1); rintro e w' ⟨rfl, ⟨nd, rfl⟩⟩; (try first | exact ⟨rfl, _, World.drewN_drewN _ _ _⟩ | exact ⟨rfl, _, Eq.trans (World.drewN_drewN _ _ _) (congrArg (World.drewN _) (Nat.add_assoc _ _ _))⟩)))
         repeat (go_quiet (first | ((with_reducible refine gate_dst (N := 49) rfl ?_); (try (refine gate_guard (by rfl) ?_; dsimp only)); refine Kd.R_lit Kd.string _ 9 ?hg (N := 49) ?hd (xs := ([strOfNums l0, strOfNums l1] : List ByteArray)) (inner := [.string (strOfNums l0), .string (strOfNums l1)]) (ok := fun _ => True) (okp := fun _ => True) ?hr ?hp (fun _ hk => hk) trivial (Below.refl _ _) (Nat.le_refl _) (by simp) ?_; (case hd => rfl); (case hg => rfl); (case hr => first | (go_simp; done) | (go_simp; rfl) | (go_simp; simp [u8w]; done)); (case hp => exact (Reps.one (show Kd.M Kd.string _ _ _ (strOfNums l0) [.string (strOfNums l0)] from rfl) (Reps.one (show Kd.M Kd.string _ _ _ (strOfNums l1) [.string (strOfNums l1)] from rfl) (Reps.none _ _)))); intro v105 w22 ho23 hb hg_ hnew_; clear hg_ hnew_; (first | rw [← Ny104.out] at ho23 | (simp only [Int.reduceToNat] at ho23; rw [← Ny104.out] at ho23)); have n0_ := Aside0.mk (Kd.R_lower ho23 (below_size (by repeat (first | (with_reducible first | exact HB.out | apply below_alloc | apply pw_below_drewN | apply below_drew1) | exact HB.out)))); have n1_ := Aside0.mk (below_step (by repeat (first | (with_reducible first | exact HB.out | apply below_alloc | apply pw_below_drewN | apply below_drew1) | exact HB.out)) hb); clear HB; have HO106 := n0_; have HB := n1_; clear n0_ n1_; clear hb ho23; obtain ⟨Ao24, co24, eo24⟩ := Kd.R_slice HO106.out; subst eo24) | (go_at_call 4; (with_reducible refine (laws_matchAsked.calls kj3 a2 _ _ y104 false _ ?side1 ?side2 A12.out).mono ?_); (case side1 => repeat (first | exact (Kd.R_reads' HO106.out).2.2 | (with_reducible refine Kd.C_alloc ?_ _) | (with_reducible refine Kd.C_drewN ?_ _) | (with_reducible refine Kd.C_drew ?_))); (case side2 => exact (Kd.R_reads' HO106.out).2.1); rintro e w' ⟨rfl, ⟨nd, rfl⟩⟩; (try first | exact ⟨rfl, _, World.drewN_drewN _ _ _⟩ | exact ⟨rfl, _, Eq.trans (World.drewN_drewN _ _ _) (congrArg (World.drewN _) (Nat.add_assoc _ _ _))⟩))); try go_wp2_with (first | ((with_reducible refine gate_dst (N := 49) rfl ?_); (try (refine gate_guard (by rfl) ?_; dsimp only)); refine Kd.R_lit Kd.string _ 9 ?hg (N := 49) ?hd (xs := ([strOfNums l0, strOfNums l1] : List ByteArray)) (inner := [.string (strOfNums l0), .string (strOfNums l1)]) (ok := fun _ => True) (okp := fun _ => True) ?hr ?hp (fun _ hk => hk) trivial (Below.refl _ _) (Nat.le_refl _) (by simp) ?_; (case hd => rfl); (case hg => rfl); (case hr => first | (go_simp; done) | (go_simp; rfl) | (go_simp; simp [u8w]; done)); (case hp => exact (Reps.one (show Kd.M Kd.string _ _ _ (strOfNums l0) [.string (strOfNums l0)] from rfl) (Reps.one (show Kd.M Kd.string _ _ _ (strOfNums l1) [.string (strOfNums l1)] from rfl) (Reps.none _ _)))); intro v105 w22 ho23 hb hg_ hnew_; clear hg_ hnew_; (first | rw [← Ny104.out] at ho23 | (simp only [Int.reduceToNat] at ho23; rw [← Ny104.out] at ho23)); have n0_ := Aside0.mk (Kd.R_lower ho23 (below_size (by repeat (first | (with_reducible first | exact HB.out | apply below_alloc | apply pw_below_drewN | apply below_drew1) | exact HB.out)))); have n1_ := Aside0.mk (below_step (by repeat (first | (with_reducible first | exact HB.out | apply below_alloc | apply pw_below_drewN | apply below_drew1) | exact HB.out)) hb); clear HB; have HO106 := n0_; have HB := n1_; clear n0_ n1_; clear hb ho23; obtain ⟨Ao24, co24, eo24⟩ := Kd.R_slice HO106.out; subst eo24) | (go_at_call 4; (with_reducible refine (laws_matchAsked.calls kj3 a2 _ _ y104 false _ ?side1 ?side2 A12.out).mono ?_); (case side1 => repeat (first | exact (Kd.R_reads' HO106.out).2.2 | (with_reducible refine Kd.C_alloc ?_ _) | (with_reducible refine Kd.C_drewN ?_ _) | (with_reducible refine Kd.C_drew ?_))); (case side2 => exact (Kd.R_reads' HO106.out).2.1); rintro e w' ⟨rfl, ⟨nd, rfl⟩⟩; (try first | exact ⟨rfl, _, World.drewN_drewN _ _ _⟩ | exact ⟨rfl, _, Eq.trans (World.drewN_drewN _ _ _) (congrArg (World.drewN _) (Nat.add_assoc _ _ _))⟩))))
         go_meet
         case rel => exact ⟨_, (true), (by first | rfl | (simp; done) | (simp [*]; done)), H', ⟨by have := HJ3.out; first | omega | exact Nat.le_refl _⟩, ⟨by repeat (first | (with_reducible first | exact HB.out | apply below_alloc | apply pw_below_drewN | apply below_drew1) | exact HB.out)⟩⟩
     ·
      rw [if_neg c9] at H
      have c9b0 : ((l0.length : Int) == (l1.length : Int)) = false := beq_eq_false_iff_ne.mpr c9
      have c9b1 : ((l0.length : Int) != (l1.length : Int)) = true := bne_iff_ne.mpr c9
      have c9b2 : (l0.length == l1.length) = false := by first | simpa using c9 | (simp at c9 ⊢; omega)
      (first | rw [c9b0] | (simp only [i64_w, i32_w]; rw [c9b0]) | skip)
      have H' := Aside0.mk H
      clear H
      go_wp2
      repeat (go_quiet (fail); try go_wp2)
      go_meet
      case rel => exact ⟨_, (true), (by first | rfl | (simp; done) | (simp [*]; done)), H', ⟨by have := HJ3.out; first | omega | exact Nat.le_refl _⟩, ⟨by repeat (first | (with_reducible first | exact HB.out | apply below_alloc | apply pw_below_drewN | apply below_drew1) | exact HB.out)⟩⟩
    case rest =>
     clear HC8
     try clear c1
     try clear hcv1
     try clear p2
     try clear hcv2
     try clear c3
     try clear c5
     try clear c5b0
     try clear c5b1
     try clear c6
     try clear c6b0
     try clear c6b1
     try clear c7
     try clear c9
     try clear c9b0
     try clear c9b1
     try clear c9b2
     try clear c10
     try clear c10b0
     try clear c10b1
     try clear c10b2
     try clear c11
     try clear c11b0
     try clear c11b1
     try clear c13
     try clear hcv15
     try clear hcv16
     try clear hcv20
     try clear hcv21
     try clear p2
     obtain ⟨kq, x57_7, rfl, HA, HJ7, HB⟩ := hcut
     cases kq with
     | zero => exact absurd HA.out (by simp [laws_FnMatchClasses.j1])
     | succ kj7 =>
      have H := HA.out
      clear HA
      simp only [laws_FnMatchClasses.j1] at H
      by_cases c25 : x57_7 = true
      ·
       subst c25
       have H1 : (some true) = some r := by rw [if_pos rfl] at H; exact H
       clear H
       have H := H1
       clear H1
       obtain rfl := Option.some.inj H
       go_wp2
       repeat (go_quiet (fail); try go_wp2)
       go_ret
       exact ⟨by first | rfl | (simp [errW_none, errW_some] <;> rfl) | (simp [*, errW_none, errW_some] <;> rfl) | (simp [bneNil]; done), by repeat (first | (with_reducible first | exact HB.out | apply below_alloc | apply pw_below_drewN | apply below_drew1) | exact HB.out)⟩
      ·
       replace c25 := Bool.eq_false_iff.mpr c25
       subst c25
       have H1 : (laws_FnMatchClasses.l0 kj7 l0 l1 a2 (⟨#[91]⟩ : ByteArray) false (l0.length : Int) 0) = some r := by rw [if_neg (show ¬ (false = true) by decide)] at H; exact H
       clear H
       have H := H1
       clear H1
       have H' := Aside0.mk H
       clear H
       go_wp2
       repeat (go_quiet (fail); try go_wp2)
       go_loopg [7, 8, 60] kj7 (fun kq v7 v8 v60 w' => ∃ (x7_3 : ByteArray) (x8_3 : Bool) (x60_3 : Int), v7 = .string x7_3 ∧ v8 = .bool x8_3 ∧ v60 = .int .i64 x60_3 ∧ Aside0 (laws_FnMatchClasses.l0 kq l0 l1 a2 x7_3 x8_3 (l0.length : Int) x60_3 = some r) ∧ Aside0 (kq ≤ kj7) ∧ Aside0 (Below w.heap.size w w'))
       case atStart => exact ⟨((⟨#[91]⟩ : ByteArray)), (false), (0), (by first | rfl | (simp; done) | (simp [*]; done)), (by first | rfl | (simp; done) | (simp [*]; done)), (by first | rfl | (simp; done) | (simp [*]; done)), H', ⟨Nat.le_refl _⟩, ⟨by repeat (first | (with_reducible first | exact HB.out | apply below_alloc | apply pw_below_drewN | apply below_drew1) | exact HB.out)⟩⟩
       case round =>
        clear H'
        try clear c1
        try clear hcv1
        try clear c2
        try clear p2
        try clear hcv2
        try clear c3
        try clear c5
        try clear c5b0
        try clear c5b1
        try clear c6
        try clear c6b0
        try clear c6b1
        try clear c7
        try clear c9
        try clear c9b0
        try clear c9b1
        try clear c9b2
        try clear c10
        try clear c10b0
        try clear c10b1
        try clear c10b2
        try clear c11
        try clear c11b0
        try clear c11b1
        try clear c13
        try clear hcv15
        try clear hcv16
        try clear hcv20
        try clear hcv21
        try clear c25
        try clear p2
        obtain ⟨x7_3, x8_3, x60_3, rfl, rfl, rfl, HA, HK3, HB⟩ := hrel
        cases gk with
        | zero => exact absurd HA.out (by simp [laws_FnMatchClasses.l0])
        | succ k3 =>
         have H := HA.out
         clear HA
         simp only [laws_FnMatchClasses.l0] at H
         by_cases c26 : x60_3 < (l0.length : Int)
         ·
          rw [if_pos c26] at H
          have c26b0 : decide (x60_3 < (l0.length : Int)) = true := decide_eq_true c26
          clear c26
          by_cases c27 : 0 ≤ x60_3
          ·
           rw [if_pos c27] at H
           have c27b0 := eq_true c27
           have c27b1 : decide (0 ≤ x60_3) = true := decide_eq_true c27
           clear c27
           by_cases c28 : x60_3 ≤ (wrap64 (x60_3 + 1))
           ·
            rw [if_pos c28] at H
            have c28b0 := eq_true c28
            have c28b1 : decide (x60_3 ≤ (wrap64 (x60_3 + 1))) = true := decide_eq_true c28
            by_cases c29 : (wrap64 (x60_3 + 1)) ≤ (l0.length : Int)
            ·
             rw [if_pos c29] at H
             have c29b0 := eq_true c29
             have c29b1 : decide ((wrap64 (x60_3 + 1)) ≤ (l0.length : Int)) = true := decide_eq_true c29
             by_cases c30 : 1 + (strOfNums ((l0.take ((wrap64 (x60_3 + 1)) : Int).toNat).drop (x60_3 : Int).toNat)).size ≤ 9223372036854775807
             ·
              rw [if_pos c30] at H
              have c30b0 := eq_true c30
              have c30b1 : decide (1 + (strOfNums ((l0.take ((wrap64 (x60_3 + 1)) : Int).toNat).drop (x60_3 : Int).toNat)).size ≤ 9223372036854775807) = true := decide_eq_true c30
              try have c30b2 : (9223372036854775807 < 1 + (strOfNums ((l0.take ((wrap64 (x60_3 + 1)) : Int).toNat).drop (x60_3 : Int).toNat)).size) = False := eq_false (Nat.not_lt.2 c30)
              by_cases c31 : ((⟨#[92]⟩ : ByteArray) ++ (strOfNums ((l0.take ((wrap64 (x60_3 + 1)) : Int).toNat).drop (x60_3 : Int).toNat))).size + 2 ≤ 9223372036854775807
              ·
               rw [if_pos c31] at H
               have c31b0 := eq_true c31
               have c31b1 : decide (((⟨#[92]⟩ : ByteArray) ++ (strOfNums ((l0.take ((wrap64 (x60_3 + 1)) : Int).toNat).drop (x60_3 : Int).toNat))).size + 2 ≤ 9223372036854775807) = true := decide_eq_true c31
               try have c31b2 : (9223372036854775807 < ((⟨#[92]⟩ : ByteArray) ++ (strOfNums ((l0.take ((wrap64 (x60_3 + 1)) : Int).toNat).drop (x60_3 : Int).toNat))).size + 2) = False := eq_false (Nat.not_lt.2 c31)
               try have c31b2n := c31b2
               try simp only [ByteArray.size_append, szL1, szL2, szL3] at c31b2n
               have c32b0 := eq_true (of_decide_eq_true (by first | (with_reducible assumption) | assumption) : 0 ≤ x60_3)
               have c33b0 := eq_true (of_decide_eq_true (by first | (with_reducible assumption) | assumption) : x60_3 ≤ (wrap64 (x60_3 + 1)))
               by_cases c34 : (wrap64 (x60_3 + 1)) ≤ (l1.length : Int)
               ·
                rw [if_pos c34] at H
                have c34b0 := eq_true c34
                have c34b1 : decide ((wrap64 (x60_3 + 1)) ≤ (l1.length : Int)) = true := decide_eq_true c34
                by_cases c35 : (((⟨#[92]⟩ : ByteArray) ++ (strOfNums ((l0.take ((wrap64 (x60_3 + 1)) : Int).toNat).drop (x60_3 : Int).toNat))) ++ (⟨#[45, 92]⟩ : ByteArray)).size + (strOfNums ((l1.take ((wrap64 (x60_3 + 1)) : Int).toNat).drop (x60_3 : Int).toNat)).size ≤ 9223372036854775807
                ·
                 rw [if_pos c35] at H
                 have c35b0 := eq_true c35
                 have c35b1 : decide ((((⟨#[92]⟩ : ByteArray) ++ (strOfNums ((l0.take ((wrap64 (x60_3 + 1)) : Int).toNat).drop (x60_3 : Int).toNat))) ++ (⟨#[45, 92]⟩ : ByteArray)).size + (strOfNums ((l1.take ((wrap64 (x60_3 + 1)) : Int).toNat).drop (x60_3 : Int).toNat)).size ≤ 9223372036854775807) = true := decide_eq_true c35
                 try have c35b2 : (9223372036854775807 < (((⟨#[92]⟩ : ByteArray) ++ (strOfNums ((l0.take ((wrap64 (x60_3 + 1)) : Int).toNat).drop (x60_3 : Int).toNat))) ++ (⟨#[45, 92]⟩ : ByteArray)).size + (strOfNums ((l1.take ((wrap64 (x60_3 + 1)) : Int).toNat).drop (x60_3 : Int).toNat)).size) = False := eq_false (Nat.not_lt.2 c35)
                 try have c35b2n := c35b2
                 try simp only [ByteArray.size_append, szL1, szL2, szL3] at c35b2n
                 by_cases c36 : 1 + ((((⟨#[92]⟩ : ByteArray) ++ (strOfNums ((l0.take ((wrap64 (x60_3 + 1)) : Int).toNat).drop (x60_3 : Int).toNat))) ++ (⟨#[45, 92]⟩ : ByteArray)) ++ (strOfNums ((l1.take ((wrap64 (x60_3 + 1)) : Int).toNat).drop (x60_3 : Int).toNat))).size ≤ 9223372036854775807
                 ·
                  rw [if_pos c36] at H
                  have c36b0 := eq_true c36
                  have c36b1 : decide (1 + ((((⟨#[92]⟩ : ByteArray) ++ (strOfNums ((l0.take ((wrap64 (x60_3 + 1)) : Int).toNat).drop (x60_3 : Int).toNat))) ++ (⟨#[45, 92]⟩ : ByteArray)) ++ (strOfNums ((l1.take ((wrap64 (x60_3 + 1)) : Int).toNat).drop (x60_3 : Int).toNat))).size ≤ 9223372036854775807) = true := decide_eq_true c36
                  try have c36b2 : (9223372036854775807 < 1 + ((((⟨#[92]⟩ : ByteArray) ++ (strOfNums ((l0.take ((wrap64 (x60_3 + 1)) : Int).toNat).drop (x60_3 : Int).toNat))) ++ (⟨#[45, 92]⟩ : ByteArray)) ++ (strOfNums ((l1.take ((wrap64 (x60_3 + 1)) : Int).toNat).drop (x60_3 : Int).toNat))).size) = False := eq_false (Nat.not_lt.2 c36)
                  try have c36b2n := c36b2
                  try simp only [ByteArray.size_append, szL1, szL2, szL3] at c36b2n
                  by_cases c37 : ((⟨#[91]⟩ : ByteArray) ++ ((((⟨#[92]⟩ : ByteArray) ++ (strOfNums ((l0.take ((wrap64 (x60_3 + 1)) : Int).toNat).drop (x60_3 : Int).toNat))) ++ (⟨#[45, 92]⟩ : ByteArray)) ++ (strOfNums ((l1.take ((wrap64 (x60_3 + 1)) : Int).toNat).drop (x60_3 : Int).toNat)))).size + 1 ≤ 9223372036854775807
                  ·
                   rw [if_pos c37] at H
                   have c37b0 := eq_true c37
                   have c37b1 : decide (((⟨#[91]⟩ : ByteArray) ++ ((((⟨#[92]⟩ : ByteArray) ++ (strOfNums ((l0.take ((wrap64 (x60_3 + 1)) : Int).toNat).drop (x60_3 : Int).toNat))) ++ (⟨#[45, 92]⟩ : ByteArray)) ++ (strOfNums ((l1.take ((wrap64 (x60_3 + 1)) : Int).toNat).drop (x60_3 : Int).toNat)))).size + 1 ≤ 9223372036854775807) = true := decide_eq_true c37
                   try have c37b2 : (9223372036854775807 < ((⟨#[91]⟩ : ByteArray) ++ ((((⟨#[92]⟩ : ByteArray) ++ (strOfNums ((l0.take ((wrap64 (x60_3 + 1)) : Int).toNat).drop (x60_3 : Int).toNat))) ++ (⟨#[45, 92]⟩ : ByteArray)) ++ (strOfNums ((l1.take ((wrap64 (x60_3 + 1)) : Int).toNat).drop (x60_3 : Int).toNat)))).size + 1) = False := eq_false (Nat.not_lt.2 c37)
                   try have c37b2n := c37b2
                   try simp only [ByteArray.size_append, szL1, szL2, szL3] at c37b2n
                   replace H := Option.bind_eq_some_iff.mp H
                   obtain ⟨⟨t111, t112⟩, A380, H⟩ := H
                   replace H : (if t112 = true then (if x8_3 = true then (if x7_3.size + ((((⟨#[92]⟩ : ByteArray) ++ (strOfNums ((l0.take ((wrap64 (x60_3 + 1)) : Int).toNat).drop (x60_3 : Int).toNat))) ++ (⟨#[45, 92]⟩ : ByteArray)) ++ (strOfNums ((l1.take ((wrap64 (x60_3 + 1)) : Int).toNat).drop (x60_3 : Int).toNat))).size ≤ 9223372036854775807 then (laws_FnMatchClasses.l0 k3 l0 l1 a2 (x7_3 ++ ((((⟨#[92]⟩ : ByteArray) ++ (strOfNums ((l0.take ((wrap64 (x60_3 + 1)) : Int).toNat).drop (x60_3 : Int).toNat))) ++ (⟨#[45, 92]⟩ : ByteArray)) ++ (strOfNums ((l1.take ((wrap64 (x60_3 + 1)) : Int).toNat).drop (x60_3 : Int).toNat)))) true (l0.length : Int) (wrap64 (x60_3 + 1))) else (none)) else (if x7_3.size + ((((⟨#[92]⟩ : ByteArray) ++ (strOfNums ((l0.take ((wrap64 (x60_3 + 1)) : Int).toNat).drop (x60_3 : Int).toNat))) ++ (⟨#[45, 92]⟩ : ByteArray)) ++ (strOfNums ((l1.take ((wrap64 (x60_3 + 1)) : Int).toNat).drop (x60_3 : Int).toNat))).size ≤ 9223372036854775807 then (laws_FnMatchClasses.l0 k3 l0 l1 a2 (x7_3 ++ ((((⟨#[92]⟩ : ByteArray) ++ (strOfNums ((l0.take ((wrap64 (x60_3 + 1)) : Int).toNat).drop (x60_3 : Int).toNat))) ++ (⟨#[45, 92]⟩ : ByteArray)) ++ (strOfNums ((l1.take ((wrap64 (x60_3 + 1)) : Int).toNat).drop (x60_3 : Int).toNat)))) t111 (l0.length : Int) (wrap64 (x60_3 + 1))) else (none))) else (some false)) = some r := H
                   have A38 := Aside0.mk A380
                   clear A380
                   by_cases c39 : t112 = true
                   ·
                    subst c39
                    have H1 : (if x8_3 = true then (if x7_3.size + ((((⟨#[92]⟩ : ByteArray) ++ (strOfNums ((l0.take ((wrap64 (x60_3 + 1)) : Int).toNat).drop (x60_3 : Int).toNat))) ++ (⟨#[45, 92]⟩ : ByteArray)) ++ (strOfNums ((l1.take ((wrap64 (x60_3 + 1)) : Int).toNat).drop (x60_3 : Int).toNat))).size ≤ 9223372036854775807 then (laws_FnMatchClasses.l0 k3 l0 l1 a2 (x7_3 ++ ((((⟨#[92]⟩ : ByteArray) ++ (strOfNums ((l0.take ((wrap64 (x60_3 + 1)) : Int).toNat).drop (x60_3 : Int).toNat))) ++ (⟨#[45, 92]⟩ : ByteArray)) ++ (strOfNums ((l1.take ((wrap64 (x60_3 + 1)) : Int).toNat).drop (x60_3 : Int).toNat)))) true (l0.length : Int) (wrap64 (x60_3 + 1))) else (none)) else (if x7_3.size + ((((⟨#[92]⟩ : ByteArray) ++ (strOfNums ((l0.take ((wrap64 (x60_3 + 1)) : Int).toNat).drop (x60_3 : Int).toNat))) ++ (⟨#[45, 92]⟩ : ByteArray)) ++ (strOfNums ((l1.take ((wrap64 (x60_3 + 1)) : Int).toNat).drop (x60_3 : Int).toNat))).size ≤ 9223372036854775807 then (laws_FnMatchClasses.l0 k3 l0 l1 a2 (x7_3 ++ ((((⟨#[92]⟩ : ByteArray) ++ (strOfNums ((l0.take ((wrap64 (x60_3 + 1)) : Int).toNat).drop (x60_3 : Int).toNat))) ++ (⟨#[45, 92]⟩ : ByteArray)) ++ (strOfNums ((l1.take ((wrap64 (x60_3 + 1)) : Int).toNat).drop (x60_3 : Int).toNat)))) t111 (l0.length : Int) (wrap64 (x60_3 + 1))) else (none))) = some r := by rw [if_pos rfl] at H; exact H
                    clear H
                    have H := H1
                    clear H1
                    by_cases c40 : x8_3 = true
                    ·
                     subst c40
                     have H1 : (if x7_3.size + ((((⟨#[92]⟩ : ByteArray) ++ (strOfNums ((l0.take ((wrap64 (x60_3 + 1)) : Int).toNat).drop (x60_3 : Int).toNat))) ++ (⟨#[45, 92]⟩ : ByteArray)) ++ (strOfNums ((l1.take ((wrap64 (x60_3 + 1)) : Int).toNat).drop (x60_3 : Int).toNat))).size ≤ 9223372036854775807 then (laws_FnMatchClasses.l0 k3 l0 l1 a2 (x7_3 ++ ((((⟨#[92]⟩ : ByteArray) ++ (strOfNums ((l0.take ((wrap64 (x60_3 + 1)) : Int).toNat).drop (x60_3 : Int).toNat))) ++ (⟨#[45, 92]⟩ : ByteArray)) ++ (strOfNums ((l1.take ((wrap64 (x60_3 + 1)) : Int).toNat).drop (x60_3 : Int).toNat)))) true (l0.length : Int) (wrap64 (x60_3 + 1))) else (none)) = some r := by rw [if_pos rfl] at H; exact H
                     clear H
                     have H := H1
                     clear H1
                     by_cases c41 : x7_3.size + ((((⟨#[92]⟩ : ByteArray) ++ (strOfNums ((l0.take ((wrap64 (x60_3 + 1)) : Int).toNat).drop (x60_3 : Int).toNat))) ++ (⟨#[45, 92]⟩ : ByteArray)) ++ (strOfNums ((l1.take ((wrap64 (x60_3 + 1)) : Int).toNat).drop (x60_3 : Int).toNat))).size ≤ 9223372036854775807
                     ·
                      rw [if_pos c41] at H
                      have c41b0 := eq_true c41
                      have c41b1 : decide (x7_3.size + ((((⟨#[92]⟩ : ByteArray) ++ (strOfNums ((l0.take ((wrap64 (x60_3 + 1)) : Int).toNat).drop (x60_3 : Int).toNat))) ++ (⟨#[45, 92]⟩ : ByteArray)) ++ (strOfNums ((l1.take ((wrap64 (x60_3 + 1)) : Int).toNat).drop (x60_3 : Int).toNat))).size ≤ 9223372036854775807) = true := decide_eq_true c41
                      try have c41b2 : (9223372036854775807 < x7_3.size + ((((⟨#[92]⟩ : ByteArray) ++ (strOfNums ((l0.take ((wrap64 (x60_3 + 1)) : Int).toNat).drop (x60_3 : Int).toNat))) ++ (⟨#[45, 92]⟩ : ByteArray)) ++ (strOfNums ((l1.take ((wrap64 (x60_3 + 1)) : Int).toNat).drop (x60_3 : Int).toNat))).size) = False := eq_false (Nat.not_lt.2 c41)
                      try have c41b2n := c41b2
                      try simp only [ByteArray.size_append, szL1, szL2, szL3] at c41b2n
                      have H' := Aside0.mk H
                      clear H
                      obtain ⟨i042, hi042, _, hsz42, _⟩ := info_parts info5
                      obtain ⟨A42, hcut42, hA42, hC42⟩ := print_mid_of (P := Tryd.prog) (Value.int .u8) 0 22 5 .i64 .i64 Tryd.underlying22 hi042 hsz42 A0 c0 l0 x60_3 (wrap64 (x60_3 + 1)) (of_decide_eq_true (by first | (with_reducible assumption) | assumption)) (by first | omega | exact of_decide_eq_true (by first | (with_reducible assumption) | assumption)) (of_decide_eq_true (by first | (with_reducible assumption) | assumption)) HC0.out
                      try (have hcut42w := hcut42; simp only [← i64_w] at hcut42w)
                      have HR109 := Aside0.mk (Kd.C_of_reads (h1 := fun _ => rfl) (hA42 _ (Kd.reads_of_C HR0.out)))
                      have HC109 := Aside0.mk hC42
                      clear hA42 hC42 hi042 hsz42
                      have hcv43 := Kd.C_string (P := Tryd.prog) (A := A42) (c := (c0 - x60_3.toNat)) Tryd.underlying22 Tryd.underlying5 Tryd.underlying9 (Kd.C_below HR109.out HB.out)
                      try (have hcv43d := fun nd_ => Kd.C_string (P := Tryd.prog) (A := A42) (c := (c0 - x60_3.toNat)) Tryd.underlying22 Tryd.underlying5 Tryd.underlying9 (Kd.C_below HR109.out (pw_below_drewN HB.out nd_)); have hcv43l : ((l0.take ((wrap64 (x60_3 + 1)) : Int).toNat).drop (x60_3 : Int).toNat).length = ((wrap64 (x60_3 + 1)) : Int).toNat - (x60_3 : Int).toNat := (by rw [List.length_drop, List.length_take, Nat.min_eq_left (by omega)]); simp only [hcv43l] at hcv43d; clear hcv43l)
                      obtain ⟨i044, hi044, _, hsz44, _⟩ := info_parts info5
                      obtain ⟨A44, hcut44, hA44, hC44⟩ := print_mid_of (P := Tryd.prog) (Value.int .u8) 0 22 5 .i64 .i64 Tryd.underlying22 hi044 hsz44 A1 c1 l1 x60_3 (wrap64 (x60_3 + 1)) (of_decide_eq_true (by first | (with_reducible assumption) | assumption)) (by first | omega | exact of_decide_eq_true (by first | (with_reducible assumption) | assumption)) (of_decide_eq_true (by first | (with_reducible assumption) | assumption)) HC1.out
                      try (have hcut44w := hcut44; simp only [← i64_w] at hcut44w)
                      have HR110 := Aside0.mk (Kd.C_of_reads (h1 := fun _ => rfl) (hA44 _ (Kd.reads_of_C HR1.out)))
                      have HC110 := Aside0.mk hC44
                      clear hA44 hC44 hi044 hsz44
                      have hcv45 := Kd.C_string (P := Tryd.prog) (A := A44) (c := (c1 - x60_3.toNat)) Tryd.underlying22 Tryd.underlying5 Tryd.underlying9 (Kd.C_below HR110.out HB.out)
                      try (have hcv45d := fun nd_ => Kd.C_string (P := Tryd.prog) (A := A44) (c := (c1 - x60_3.toNat)) Tryd.underlying22 Tryd.underlying5 Tryd.underlying9 (Kd.C_below HR110.out (pw_below_drewN HB.out nd_)); have hcv45l : ((l1.take ((wrap64 (x60_3 + 1)) : Int).toNat).drop (x60_3 : Int).toNat).length = ((wrap64 (x60_3 + 1)) : Int).toNat - (x60_3 : Int).toNat := (by rw [List.length_drop, List.length_take, Nat.min_eq_left (by omega)]); simp only [hcv45l] at hcv45d; clear hcv45l)
                      go_wp2_with (first | (go_at_call 6; (with_reducible refine (laws_matchName.calls (((⟨#[91]⟩ : ByteArray) ++ ((((⟨#[92]⟩ : ByteArray) ++ (strOfNums ((l0.take ((wrap64 (x60_3 + 1)) : Int).toNat).drop (x60_3 : Int).toNat))) ++ (⟨#[45, 92]⟩ : ByteArray)) ++ (strOfNums ((l1.take ((wrap64 (x60_3 + 1)) : Int).toNat).drop (x60_3 : Int).toNat)))) ++ (⟨#[93]⟩ : ByteArray)) a2 t111 true _ A38.out).mono ?_); rintro e w46 ⟨rfl, hb⟩; have n0_ := Aside0.mk (below_step (by repeat (first | (with_reducible first | exact HB.out | apply below_alloc | apply pw_below_drewN | apply below_drew1) | exact HB.out)) hb); clear HB; have HB := n0_; clear n0_; (try clear hb); (try clear hb2); (try clear hk); (try clear hi)))
                      repeat (go_quiet (first | (go_at_call 6; (with_reducible refine (laws_matchName.calls (((⟨#[91]⟩ : ByteArray) ++ ((((⟨#[92]⟩ : ByteArray) ++ (strOfNums ((l0.take ((wrap64 (x60_3 + 1)) : Int).toNat).drop (x60_3 : Int).toNat))) ++ (⟨#[45, 92]⟩ : ByteArray)) ++ (strOfNums ((l1.take ((wrap64 (x60_3 + 1)) : Int).toNat).drop (x60_3 : Int).toNat)))) ++ (⟨#[93]⟩ : ByteArray)) a2 t111 true _ A38.out).mono ?_); rintro e w46 ⟨rfl, hb⟩; have n0_ := Aside0.mk (below_step (by repeat (first | (with_reducible first | exact HB.out | apply below_alloc | apply pw_below_drewN | apply below_drew1) | exact HB.out)) hb); clear HB; have HB := n0_; clear n0_; (try clear hb); (try clear hb2); (try clear hk); (try clear hi))); try go_wp2_with (first | (go_at_call 6; (with_reducible refine (laws_matchName.calls (((⟨#[91]⟩ : ByteArray) ++ ((((⟨#[92]⟩ : ByteArray) ++ (strOfNums ((l0.take ((wrap64 (x60_3 + 1)) : Int).toNat).drop (x60_3 : Int).toNat))) ++ (⟨#[45, 92]⟩ : ByteArray)) ++ (strOfNums ((l1.take ((wrap64 (x60_3 + 1)) : Int).toNat).drop (x60_3 : Int).toNat)))) ++ (⟨#[93]⟩ : ByteArray)) a2 t111 true _ A38.out).mono ?_); rintro e w46 ⟨rfl, hb⟩; have n0_ := Aside0.mk (below_step (by repeat (first | (with_reducible first | exact HB.out | apply below_alloc | apply pw_below_drewN | apply below_drew1) | exact HB.out)) hb); clear HB; have HB := n0_; clear n0_; (try clear hb); (try clear hb2); (try clear hk); (try clear hi))))
                      go_roundg k3
                      case measure => have := HJ3.out; have := HJ7.out; have := HK3.out; omega
                      case rel => exact ⟨(x7_3 ++ ((((⟨#[92]⟩ : ByteArray) ++ (strOfNums ((l0.take ((wrap64 (x60_3 + 1)) : Int).toNat).drop (x60_3 : Int).toNat))) ++ (⟨#[45, 92]⟩ : ByteArray)) ++ (strOfNums ((l1.take ((wrap64 (x60_3 + 1)) : Int).toNat).drop (x60_3 : Int).toNat)))), (true), (wrap64 (x60_3 + 1)), (by first | rfl | (simp; done) | (simp [*]; done)), (by first | rfl | (simp; done) | (simp [*]; done)), (by first | rfl | (simp; done) | (simp [*]; done)), H', ⟨by have := HJ3.out; have := HJ7.out; have := HK3.out; omega⟩, ⟨by repeat (first | (with_reducible first | exact HB.out | apply below_alloc | apply pw_below_drewN | apply below_drew1) | exact HB.out)⟩⟩
                     ·
                      rw [if_neg c41] at H
                      exact absurd H (by simp)
                    ·
                     replace c40 := Bool.eq_false_iff.mpr c40
                     subst c40
                     have H1 : (if x7_3.size + ((((⟨#[92]⟩ : ByteArray) ++ (strOfNums ((l0.take ((wrap64 (x60_3 + 1)) : Int).toNat).drop (x60_3 : Int).toNat))) ++ (⟨#[45, 92]⟩ : ByteArray)) ++ (strOfNums ((l1.take ((wrap64 (x60_3 + 1)) : Int).toNat).drop (x60_3 : Int).toNat))).size ≤ 9223372036854775807 then (laws_FnMatchClasses.l0 k3 l0 l1 a2 (x7_3 ++ ((((⟨#[92]⟩ : ByteArray) ++ (strOfNums ((l0.take ((wrap64 (x60_3 + 1)) : Int).toNat).drop (x60_3 : Int).toNat))) ++ (⟨#[45, 92]⟩ : ByteArray)) ++ (strOfNums ((l1.take ((wrap64 (x60_3 + 1)) : Int).toNat).drop (x60_3 : Int).toNat)))) t111 (l0.length : Int) (wrap64 (x60_3 + 1))) else (none)) = some r := by rw [if_neg (show ¬ (false = true) by decide)] at H; exact H
                     clear H
                     have H := H1
                     clear H1
                     by_cases c47 : x7_3.size + ((((⟨#[92]⟩ : ByteArray) ++ (strOfNums ((l0.take ((wrap64 (x60_3 + 1)) : Int).toNat).drop (x60_3 : Int).toNat))) ++ (⟨#[45, 92]⟩ : ByteArray)) ++ (strOfNums ((l1.take ((wrap64 (x60_3 + 1)) : Int).toNat).drop (x60_3 : Int).toNat))).size ≤ 9223372036854775807
                     ·
                      rw [if_pos c47] at H
                      have c47b0 := eq_true c47
                      have c47b1 : decide (x7_3.size + ((((⟨#[92]⟩ : ByteArray) ++ (strOfNums ((l0.take ((wrap64 (x60_3 + 1)) : Int).toNat).drop (x60_3 : Int).toNat))) ++ (⟨#[45, 92]⟩ : ByteArray)) ++ (strOfNums ((l1.take ((wrap64 (x60_3 + 1)) : Int).toNat).drop (x60_3 : Int).toNat))).size ≤ 9223372036854775807) = true := decide_eq_true c47
                      try have c47b2 : (9223372036854775807 < x7_3.size + ((((⟨#[92]⟩ : ByteArray) ++ (strOfNums ((l0.take ((wrap64 (x60_3 + 1)) : Int).toNat).drop (x60_3 : Int).toNat))) ++ (⟨#[45, 92]⟩ : ByteArray)) ++ (strOfNums ((l1.take ((wrap64 (x60_3 + 1)) : Int).toNat).drop (x60_3 : Int).toNat))).size) = False := eq_false (Nat.not_lt.2 c47)
                      try have c47b2n := c47b2
                      try simp only [ByteArray.size_append, szL1, szL2, szL3] at c47b2n
                      have H' := Aside0.mk H
                      clear H
                      obtain ⟨i048, hi048, _, hsz48, _⟩ := info_parts info5
                      obtain ⟨A48, hcut48, hA48, hC48⟩ := print_mid_of (P := Tryd.prog) (Value.int .u8) 0 22 5 .i64 .i64 Tryd.underlying22 hi048 hsz48 A0 c0 l0 x60_3 (wrap64 (x60_3 + 1)) (of_decide_eq_true (by first | (with_reducible assumption) | assumption)) (by first | omega | exact of_decide_eq_true (by first | (with_reducible assumption) | assumption)) (of_decide_eq_true (by first | (with_reducible assumption) | assumption)) HC0.out
                      try (have hcut48w := hcut48; simp only [← i64_w] at hcut48w)
                      have HR109 := Aside0.mk (Kd.C_of_reads (h1 := fun _ => rfl) (hA48 _ (Kd.reads_of_C HR0.out)))
                      have HC109 := Aside0.mk hC48
                      clear hA48 hC48 hi048 hsz48
                      have hcv49 := Kd.C_string (P := Tryd.prog) (A := A48) (c := (c0 - x60_3.toNat)) Tryd.underlying22 Tryd.underlying5 Tryd.underlying9 (Kd.C_below HR109.out HB.out)
                      try (have hcv49d := fun nd_ => Kd.C_string (P := Tryd.prog) (A := A48) (c := (c0 - x60_3.toNat)) Tryd.underlying22 Tryd.underlying5 Tryd.underlying9 (Kd.C_below HR109.out (pw_below_drewN HB.out nd_)); have hcv49l : ((l0.take ((wrap64 (x60_3 + 1)) : Int).toNat).drop (x60_3 : Int).toNat).length = ((wrap64 (x60_3 + 1)) : Int).toNat - (x60_3 : Int).toNat := (by rw [List.length_drop, List.length_take, Nat.min_eq_left (by omega)]); simp only [hcv49l] at hcv49d; clear hcv49l)
                      obtain ⟨i050, hi050, _, hsz50, _⟩ := info_parts info5
                      obtain ⟨A50, hcut50, hA50, hC50⟩ := print_mid_of (P := Tryd.prog) (Value.int .u8) 0 22 5 .i64 .i64 Tryd.underlying22 hi050 hsz50 A1 c1 l1 x60_3 (wrap64 (x60_3 + 1)) (of_decide_eq_true (by first | (with_reducible assumption) | assumption)) (by first | omega | exact of_decide_eq_true (by first | (with_reducible assumption) | assumption)) (of_decide_eq_true (by first | (with_reducible assumption) | assumption)) HC1.out
                      try (have hcut50w := hcut50; simp only [← i64_w] at hcut50w)
                      have HR110 := Aside0.mk (Kd.C_of_reads (h1 := fun _ => rfl) (hA50 _ (Kd.reads_of_C HR1.out)))
                      have HC110 := Aside0.mk hC50
                      clear hA50 hC50 hi050 hsz50
                      have hcv51 := Kd.C_string (P := Tryd.prog) (A := A50) (c := (c1 - x60_3.toNat)) Tryd.underlying22 Tryd.underlying5 Tryd.underlying9 (Kd.C_below HR110.out HB.out)
                      try (have hcv51d := fun nd_ => Kd.C_string (P := Tryd.prog) (A := A50) (c := (c1 - x60_3.toNat)) Tryd.underlying22 Tryd.underlying5 Tryd.underlying9 (Kd.C_below HR110.out (pw_below_drewN HB.out nd_)); have hcv51l : ((l1.take ((wrap64 (x60_3 + 1)) : Int).toNat).drop (x60_3 : Int).toNat).length = ((wrap64 (x60_3 + 1)) : Int).toNat - (x60_3 : Int).toNat := (by rw [List.length_drop, List.length_take, Nat.min_eq_left (by omega)]); simp only [hcv51l] at hcv51d; clear hcv51l)
                      go_wp2_with (first | (go_at_call 6; (with_reducible refine (laws_matchName.calls (((⟨#[91]⟩ : ByteArray) ++ ((((⟨#[92]⟩ : ByteArray) ++ (strOfNums ((l0.take ((wrap64 (x60_3 + 1)) : Int).toNat).drop (x60_3 : Int).toNat))) ++ (⟨#[45, 92]⟩ : ByteArray)) ++ (strOfNums ((l1.take ((wrap64 (x60_3 + 1)) : Int).toNat).drop (x60_3 : Int).toNat)))) ++ (⟨#[93]⟩ : ByteArray)) a2 t111 true _ A38.out).mono ?_); rintro e w52 ⟨rfl, hb⟩; have n0_ := Aside0.mk (below_step (by repeat (first | (with_reducible first | exact HB.out | apply below_alloc | apply pw_below_drewN | apply below_drew1) | exact HB.out)) hb); clear HB; have HB := n0_; clear n0_; (try clear hb); (try clear hb2); (try clear hk); (try clear hi)))
                      repeat (go_quiet (first | (go_at_call 6; (with_reducible refine (laws_matchName.calls (((⟨#[91]⟩ : ByteArray) ++ ((((⟨#[92]⟩ : ByteArray) ++ (strOfNums ((l0.take ((wrap64 (x60_3 + 1)) : Int).toNat).drop (x60_3 : Int).toNat))) ++ (⟨#[45, 92]⟩ : ByteArray)) ++ (strOfNums ((l1.take ((wrap64 (x60_3 + 1)) : Int).toNat).drop (x60_3 : Int).toNat)))) ++ (⟨#[93]⟩ : ByteArray)) a2 t111 true _ A38.out).mono ?_); rintro e w52 ⟨rfl, hb⟩; have n0_ := Aside0.mk (below_step (by repeat (first | (with_reducible first | exact HB.out | apply below_alloc | apply pw_below_drewN | apply below_drew1) | exact HB.out)) hb); clear HB; have HB := n0_; clear n0_; (try clear hb); (try clear hb2); (try clear hk); (try clear hi))); try go_wp2_with (first | (go_at_call 6; (with_reducible refine (laws_matchName.calls (((⟨#[91]⟩ : ByteArray) ++ ((((⟨#[92]⟩ : ByteArray) ++ (strOfNums ((l0.take ((wrap64 (x60_3 + 1)) : Int).toNat).drop (x60_3 : Int).toNat))) ++ (⟨#[45, 92]⟩ : ByteArray)) ++ (strOfNums ((l1.take ((wrap64 (x60_3 + 1)) : Int).toNat).drop (x60_3 : Int).toNat)))) ++ (⟨#[93]⟩ : ByteArray)) a2 t111 true _ A38.out).mono ?_); rintro e w52 ⟨rfl, hb⟩; have n0_ := Aside0.mk (below_step (by repeat (first | (with_reducible first | exact HB.out | apply below_alloc | apply pw_below_drewN | apply below_drew1) | exact HB.out)) hb); clear HB; have HB := n0_; clear n0_; (try clear hb); (try clear hb2); (try clear hk); (try clear hi))))
                      go_roundg k3
                      case measure => have := HJ3.out; have := HJ7.out; have := HK3.out; omega
                      case rel => exact ⟨(x7_3 ++ ((((⟨#[92]⟩ : ByteArray) ++ (strOfNums ((l0.take ((wrap64 (x60_3 + 1)) : Int).toNat).drop (x60_3 : Int).toNat))) ++ (⟨#[45, 92]⟩ : ByteArray)) ++ (strOfNums ((l1.take ((wrap64 (x60_3 + 1)) : Int).toNat).drop (x60_3 : Int).toNat)))), (t111), (wrap64 (x60_3 + 1)), (by first | rfl | (simp; done) | (simp [*]; done)), (by first | rfl | (simp; done) | (simp [*]; done)), (by first | rfl | (simp; done) | (simp [*]; done)), H', ⟨by have := HJ3.out; have := HJ7.out; have := HK3.out; omega⟩, ⟨by repeat (first | (with_reducible first | exact HB.out | apply below_alloc | apply pw_below_drewN | apply below_drew1) | exact HB.out)⟩⟩
                     ·
                      rw [if_neg c47] at H
                      exact absurd H (by simp)
                   ·
                    replace c39 := Bool.eq_false_iff.mpr c39
                    subst c39
                    have H1 : (some false) = some r := by rw [if_neg (show ¬ (false = true) by decide)] at H; exact H
                    clear H
                    have H := H1
                    clear H1
                    obtain rfl := Option.some.inj H
                    obtain ⟨i053, hi053, _, hsz53, _⟩ := info_parts info5
                    obtain ⟨A53, hcut53, hA53, hC53⟩ := print_mid_of (P := Tryd.prog) (Value.int .u8) 0 22 5 .i64 .i64 Tryd.underlying22 hi053 hsz53 A0 c0 l0 x60_3 (wrap64 (x60_3 + 1)) (of_decide_eq_true (by first | (with_reducible assumption) | assumption)) (by first | omega | exact of_decide_eq_true (by first | (with_reducible assumption) | assumption)) (of_decide_eq_true (by first | (with_reducible assumption) | assumption)) HC0.out
                    try (have hcut53w := hcut53; simp only [← i64_w] at hcut53w)
                    have HR109 := Aside0.mk (Kd.C_of_reads (h1 := fun _ => rfl) (hA53 _ (Kd.reads_of_C HR0.out)))
                    have HC109 := Aside0.mk hC53
                    clear hA53 hC53 hi053 hsz53
                    have hcv54 := Kd.C_string (P := Tryd.prog) (A := A53) (c := (c0 - x60_3.toNat)) Tryd.underlying22 Tryd.underlying5 Tryd.underlying9 (Kd.C_below HR109.out HB.out)
                    try (have hcv54d := fun nd_ => Kd.C_string (P := Tryd.prog) (A := A53) (c := (c0 - x60_3.toNat)) Tryd.underlying22 Tryd.underlying5 Tryd.underlying9 (Kd.C_below HR109.out (pw_below_drewN HB.out nd_)); have hcv54l : ((l0.take ((wrap64 (x60_3 + 1)) : Int).toNat).drop (x60_3 : Int).toNat).length = ((wrap64 (x60_3 + 1)) : Int).toNat - (x60_3 : Int).toNat := (by rw [List.length_drop, List.length_take, Nat.min_eq_left (by omega)]); simp only [hcv54l] at hcv54d; clear hcv54l)
                    obtain ⟨i055, hi055, _, hsz55, _⟩ := info_parts info5
                    obtain ⟨A55, hcut55, hA55, hC55⟩ := print_mid_of (P := Tryd.prog) (Value.int .u8) 0 22 5 .i64 .i64 Tryd.underlying22 hi055 hsz55 A1 c1 l1 x60_3 (wrap64 (x60_3 + 1)) (of_decide_eq_true (by first | (with_reducible assumption) | assumption)) (by first | omega | exact of_decide_eq_true (by first | (with_reducible assumption) | assumption)) (of_decide_eq_true (by first | (with_reducible assumption) | assumption)) HC1.out
                    try (have hcut55w := hcut55; simp only [← i64_w] at hcut55w)
                    have HR110 := Aside0.mk (Kd.C_of_reads (h1 := fun _ => rfl) (hA55 _ (Kd.reads_of_C HR1.out)))
                    have HC110 := Aside0.mk hC55
                    clear hA55 hC55 hi055 hsz55
                    have hcv56 := Kd.C_string (P := Tryd.prog) (A := A55) (c := (c1 - x60_3.toNat)) Tryd.underlying22 Tryd.underlying5 Tryd.underlying9 (Kd.C_below HR110.out HB.out)
                    try (have hcv56d := fun nd_ => Kd.C_string (P := Tryd.prog) (A := A55) (c := (c1 - x60_3.toNat)) Tryd.underlying22 Tryd.underlying5 Tryd.underlying9 (Kd.C_below HR110.out (pw_below_drewN HB.out nd_)); have hcv56l : ((l1.take ((wrap64 (x60_3 + 1)) : Int).toNat).drop (x60_3 : Int).toNat).length = ((wrap64 (x60_3 + 1)) : Int).toNat - (x60_3 : Int).toNat := (by rw [List.length_drop, List.length_take, Nat.min_eq_left (by omega)]); simp only [hcv56l] at hcv56d; clear hcv56l)
                    go_wp2_with (first | (go_at_call 6; (with_reducible refine (laws_matchName.calls (((⟨#[91]⟩ : ByteArray) ++ ((((⟨#[92]⟩ : ByteArray) ++ (strOfNums ((l0.take ((wrap64 (x60_3 + 1)) : Int).toNat).drop (x60_3 : Int).toNat))) ++ (⟨#[45, 92]⟩ : ByteArray)) ++ (strOfNums ((l1.take ((wrap64 (x60_3 + 1)) : Int).toNat).drop (x60_3 : Int).toNat)))) ++ (⟨#[93]⟩ : ByteArray)) a2 t111 false _ A38.out).mono ?_); rintro e w57 ⟨rfl, hb⟩; have n0_ := Aside0.mk (below_step (by repeat (first | (with_reducible first | exact HB.out | apply below_alloc | apply pw_below_drewN | apply below_drew1) | exact HB.out)) hb); clear HB; have HB := n0_; clear n0_; (try clear hb); (try clear hb2); (try clear hk); (try clear hi)))
                    repeat (go_quiet (first | (go_at_call 6; (with_reducible refine (laws_matchName.calls (((⟨#[91]⟩ : ByteArray) ++ ((((⟨#[92]⟩ : ByteArray) ++ (strOfNums ((l0.take ((wrap64 (x60_3 + 1)) : Int).toNat).drop (x60_3 : Int).toNat))) ++ (⟨#[45, 92]⟩ : ByteArray)) ++ (strOfNums ((l1.take ((wrap64 (x60_3 + 1)) : Int).toNat).drop (x60_3 : Int).toNat)))) ++ (⟨#[93]⟩ : ByteArray)) a2 t111 false _ A38.out).mono ?_); rintro e w57 ⟨rfl, hb⟩; have n0_ := Aside0.mk (below_step (by repeat (first | (with_reducible first | exact HB.out | apply below_alloc | apply pw_below_drewN | apply below_drew1) | exact HB.out)) hb); clear HB; have HB := n0_; clear n0_; (try clear hb); (try clear hb2); (try clear hk); (try clear hi))); try go_wp2_with (first | (go_at_call 6; (with_reducible refine (laws_matchName.calls (((⟨#[91]⟩ : ByteArray) ++ ((((⟨#[92]⟩ : ByteArray) ++ (strOfNums ((l0.take ((wrap64 (x60_3 + 1)) : Int).toNat).drop (x60_3 : Int).toNat))) ++ (⟨#[45, 92]⟩ : ByteArray)) ++ (strOfNums ((l1.take ((wrap64 (x60_3 + 1)) : Int).toNat).drop (x60_3 : Int).toNat)))) ++ (⟨#[93]⟩ : ByteArray)) a2 t111 false _ A38.out).mono ?_); rintro e w57 ⟨rfl, hb⟩; have n0_ := Aside0.mk (below_step (by repeat (first | (with_reducible first | exact HB.out | apply below_alloc | apply pw_below_drewN | apply below_drew1) | exact HB.out)) hb); clear HB; have HB := n0_; clear n0_; (try clear hb); (try clear hb2); (try clear hk); (try clear hi))))
                    go_ret
                    exact ⟨by first | rfl | (simp [errW_none, errW_some] <;> rfl) | (simp [*, errW_none, errW_some] <;> rfl) | (simp [bneNil]; done), by repeat (first | (with_reducible first | exact HB.out | apply below_alloc | apply pw_below_drewN | apply below_drew1) | exact HB.out)⟩
                  ·
                   rw [if_neg c37] at H
                   exact absurd H (by simp)
                 ·
                  rw [if_neg c36] at H
                  exact absurd H (by simp)
                ·
                 rw [if_neg c35] at H
                 exact absurd H (by simp)
               ·
                rw [if_neg c34] at H
                exact absurd H (by simp)
              ·
               rw [if_neg c31] at H
               exact absurd H (by simp)
             ·
              rw [if_neg c30] at H
              exact absurd H (by simp)
            ·
             rw [if_neg c29] at H
             exact absurd H (by simp)
           ·
            rw [if_neg c28] at H
            exact absurd H (by simp)
          ·
           rw [if_neg c27] at H
           exact absurd H (by simp)
         ·
          rw [if_neg c26] at H
          have c26b0 : decide (x60_3 < (l0.length : Int)) = false := decide_eq_false c26
          clear c26
          by_cases c58 : x7_3.size + 1 ≤ 9223372036854775807
          ·
           rw [if_pos c58] at H
           have c58b0 := eq_true c58
           have c58b1 : decide (x7_3.size + 1 ≤ 9223372036854775807) = true := decide_eq_true c58
           try have c58b2 : (9223372036854775807 < x7_3.size + 1) = False := eq_false (Nat.not_lt.2 c58)
           replace H := Option.bind_eq_some_iff.mp H
           obtain ⟨⟨t113, t114⟩, A590, H⟩ := H
           replace H : (if t114 = true then (some (t113 == x8_3)) else (some false)) = some r := H
           have A59 := Aside0.mk A590
           clear A590
           by_cases c60 : t114 = true
           ·
            subst c60
            have H1 : (some (t113 == x8_3)) = some r := by rw [if_pos rfl] at H; exact H
            clear H
            have H := H1
            clear H1
            obtain rfl := Option.some.inj H
            go_wp2_with (first | (go_at_call 6; (with_reducible refine (laws_matchName.calls (x7_3 ++ (⟨#[93]⟩ : ByteArray)) a2 t113 true _ A59.out).mono ?_); rintro e w61 ⟨rfl, hb⟩; have n0_ := Aside0.mk (below_step (by repeat (first | (with_reducible first | exact HB.out | apply below_alloc | apply pw_below_drewN | apply below_drew1) | exact HB.out)) hb); clear HB; have HB := n0_; clear n0_; (try clear hb); (try clear hb2); (try clear hk); (try clear hi)))
            repeat (go_quiet (first | (go_at_call 6; (with_reducible refine (laws_matchName.calls (x7_3 ++ (⟨#[93]⟩ : ByteArray)) a2 t113 true _ A59.out).mono ?_); rintro e w61 ⟨rfl, hb⟩; have n0_ := Aside0.mk (below_step (by repeat (first | (with_reducible first | exact HB.out | apply below_alloc | apply pw_below_drewN | apply below_drew1) | exact HB.out)) hb); clear HB; have HB := n0_; clear n0_; (try clear hb); (try clear hb2); (try clear hk); (try clear hi))); try go_wp2_with (first | (go_at_call 6; (with_reducible refine (laws_matchName.calls (x7_3 ++ (⟨#[93]⟩ : ByteArray)) a2 t113 true _ A59.out).mono ?_); rintro e w61 ⟨rfl, hb⟩; have n0_ := Aside0.mk (below_step (by repeat (first | (with_reducible first | exact HB.out | apply below_alloc | apply pw_below_drewN | apply below_drew1) | exact HB.out)) hb); clear HB; have HB := n0_; clear n0_; (try clear hb); (try clear hb2); (try clear hk); (try clear hi))))
            go_ret
            exact ⟨by first | rfl | (simp [errW_none, errW_some] <;> rfl) | (simp [*, errW_none, errW_some] <;> rfl) | (simp [bneNil]; done), by repeat (first | (with_reducible first | exact HB.out | apply below_alloc | apply pw_below_drewN | apply below_drew1) | exact HB.out)⟩
           ·
            replace c60 := Bool.eq_false_iff.mpr c60
            subst c60
            have H1 : (some false) = some r := by rw [if_neg (show ¬ (false = true) by decide)] at H; exact H
            clear H
            have H := H1
            clear H1
            obtain rfl := Option.some.inj H
            go_wp2_with (first | (go_at_call 6; (with_reducible refine (laws_matchName.calls (x7_3 ++ (⟨#[93]⟩ : ByteArray)) a2 t113 false _ A59.out).mono ?_); rintro e w62 ⟨rfl, hb⟩; have n0_ := Aside0.mk (below_step (by repeat (first | (with_reducible first | exact HB.out | apply below_alloc | apply pw_below_drewN | apply below_drew1) | exact HB.out)) hb); clear HB; have HB := n0_; clear n0_; (try clear hb); (try clear hb2); (try clear hk); (try clear hi)))
            repeat (go_quiet (first | (go_at_call 6; (with_reducible refine (laws_matchName.calls (x7_3 ++ (⟨#[93]⟩ : ByteArray)) a2 t113 false _ A59.out).mono ?_); rintro e w62 ⟨rfl, hb⟩; have n0_ := Aside0.mk (below_step (by repeat (first | (with_reducible first | exact HB.out | apply below_alloc | apply pw_below_drewN | apply below_drew1) | exact HB.out)) hb); clear HB; have HB := n0_; clear n0_; (try clear hb); (try clear hb2); (try clear hk); (try clear hi))); try go_wp2_with (first | (go_at_call 6; (with_reducible refine (laws_matchName.calls (x7_3 ++ (⟨#[93]⟩ : ByteArray)) a2 t113 false _ A59.out).mono ?_); rintro e w62 ⟨rfl, hb⟩; have n0_ := Aside0.mk (below_step (by repeat (first | (with_reducible first | exact HB.out | apply below_alloc | apply pw_below_drewN | apply below_drew1) | exact HB.out)) hb); clear HB; have HB := n0_; clear n0_; (try clear hb); (try clear hb2); (try clear hk); (try clear hi))))
            go_ret
            exact ⟨by first | rfl | (simp [errW_none, errW_some] <;> rfl) | (simp [*, errW_none, errW_some] <;> rfl) | (simp [bneNil]; done), by repeat (first | (with_reducible first | exact HB.out | apply below_alloc | apply pw_below_drewN | apply below_drew1) | exact HB.out)⟩
          ·
           rw [if_neg c58] at H
           exact absurd H (by simp)

end Go.Proofs.YtmlcpnehihmhaaaDoor.PX
namespace Go.Proofs.YtmlcpnehihmhaaaDoor.Mt

open Go Go.RowKit Go.Lib Go.Proofs Go.Proofs.YtmlcpnehihmhaaaDoor Go.Proofs.YtmlcpnehihmhaaaDoor.L Go.Proofs.YtmlcpnehihmhaaaDoor.Bt Go.Proofs.YtmlcpnehihmhaaaDoor.PX

open Go.Proofs.YtmlcpnehihmhaaaDoorW.PrintWords Go.Proofs.YtmlcpnehihmhaaaDoorW.PrintLast Go.Proofs.YtmlcpnehihmhaaaDoorW.PrintMore

theorem bt_nat (s : ByteArray) (i : Nat) (h : i < s.size) : bt s (i : Int) = (s[i].toNat : Int) := by
  rw [← bt_at s (i : Int) (by simpa using h)]
  simp only [Int.toNat_natCast]

theorem w1 (i : Nat) (h : i < 2000000000000) : wrap64 ((i : Int) + 1) = ((i + 1 : Nat) : Int) := by rw [w64 (by omega) (by omega)]; omega

def plB (l : List UInt8) : Bool := l.all (fun c => decide (c.toNat < 128))

theorem plain_l (s : ByteArray) (hs : s.size ≤ 1099511627776) : ∀ d i k, i + d = s.size → d < k → laws_refPlain.l0 k s (i : Int) = some (plB ((bl s).drop i)) := by
  intro d
  induction d with
  | zero =>
    intro i k hi hk
    obtain ⟨k, rfl⟩ : ∃ m, k = m + 1 := ⟨k - 1, by omega⟩
    simp only [laws_refPlain.l0]
    rw [if_neg (by omega), List.drop_of_length_le (by rw [bl_len]; omega)]
    rfl
  | succ d ih =>
    intro i k hi hk
    obtain ⟨k, rfl⟩ : ∃ m, k = m + 1 := ⟨k - 1, by omega⟩
    have hlt : i < s.size := by omega
    simp only [laws_refPlain.l0]
    rw [if_pos (by omega), if_pos (by omega), bt_nat s i hlt, drop_bl s i hlt, get_bl s i hlt]
    unfold plB
    rw [List.all_cons]
    by_cases e : (s[i].toNat : Int) ≥ 128
    · rw [if_pos e, decide_eq_false (by omega)]; rfl
    · rw [if_neg e, decide_eq_true (by omega), w1 i (by omega), ih (i + 1) k (by omega) (by omega)]; rfl

theorem plain_f (s : ByteArray) (hs : s.size ≤ 1099511627776) (k : Nat) (hk : s.size < k) : laws_refPlain.f k s = some (plB (bl s)) := by
  have := plain_l s hs s.size 0 k (by omega) hk
  rw [List.drop_zero] at this
  exact this

theorem first_t (s : ByteArray) (c : Int) (hs : s.size ≤ 1099511627776) : ∀ d i k, i + d = s.size → d < k → ∃ r, spec_RefFirst.l0 k s c (i : Int) = some r := by
  intro d
  induction d with
  | zero =>
    intro i k hi hk
    obtain ⟨k, rfl⟩ : ∃ m, k = m + 1 := ⟨k - 1, by omega⟩
    simp only [spec_RefFirst.l0]
    rw [if_neg (by omega)]
    exact ⟨_, rfl⟩
  | succ d ih =>
    intro i k hi hk
    obtain ⟨k, rfl⟩ : ∃ m, k = m + 1 := ⟨k - 1, by omega⟩
    simp only [spec_RefFirst.l0]
    rw [if_pos (by omega), if_pos (by omega), w1 i (by omega)]
    split
    · exact ⟨_, rfl⟩
    · exact ih (i + 1) k (by omega) (by omega)

theorem asked_f (s a b : ByteArray) (hs : s.size ≤ 2147483647) (ha : a.size ≤ 10) (hb : b.size ≤ 10) (k : Nat) (hk : 2147483660 < k) :
    ∃ r, laws_matchAsked.f k s [a, b] = some r ∧ (r = true → plB (bl a) = true ∧ plB (bl b) = true ∧ plB (bl s) = true ∧ bl s ≠ []) := by
  unfold laws_matchAsked.f
  obtain ⟨k, rfl⟩ : ∃ m, k = m + 3 := ⟨k - 3, by omega⟩
  have r0 : rdOf ByteArray.empty [a, b] 0 = a := rfl
  have r1 : rdOf ByteArray.empty [a, b] 1 = b := rfl
  simp only [laws_matchAsked.l0, List.length_cons, List.length_nil]
  rw [if_pos (by decide), if_pos (by decide), if_pos (by decide), r0, plain_f a (by omega) (k + 2) (by omega)]
  simp only [Option.bind_some]
  cases h1 : plB (bl a) with
  | false => rw [if_neg (by simp)]; exact ⟨_, rfl, fun q => by cases q⟩
  | true =>
    rw [if_pos rfl, show wrap64 (0 + 1) = 1 from w64 (by decide) (by decide), if_pos (by decide), if_pos (by decide), if_pos (by decide), r1, plain_f b (by omega) (k + 1) (by omega)]
    simp only [Option.bind_some]
    cases h2 : plB (bl b) with
    | false => rw [if_neg (by simp)]; exact ⟨_, rfl, fun q => by cases q⟩
    | true =>
      rw [if_pos rfl, show wrap64 (1 + 1) = 2 from w64 (by decide) (by decide), if_neg (by decide)]
      split
      · split
        · exact ⟨_, rfl, fun q => by cases q⟩
        · rename_i hne
          rw [plain_f s (by omega) k (by omega)]
          simp only [Option.bind_some]
          exact ⟨_, rfl, fun q => ⟨trivial, trivial, q, fun e => hne (by rw [ByteArray.toList_eq]; exact e)⟩⟩
      · exact ⟨_, rfl, fun q => by cases q⟩

theorem bl_app (a b : ByteArray) : bl (a ++ b) = bl a ++ bl b := by unfold bl; rw [ByteArray.data_append, Array.toList_append]

/-- The ranges ahead of the closing bracket. -/
def encO : List Rg → List UInt8
  | [] => []
  | (a, b) :: r => 92 :: a :: 45 :: 92 :: b :: encO r

theorem enc_O : ∀ L : List Rg, enc L = encO L ++ [93]
  | [] => rfl
  | (a, b) :: r => by show 92 :: a :: 45 :: 92 :: b :: enc r = 92 :: a :: 45 :: 92 :: b :: (encO r ++ [93]); rw [enc_O r]

theorem encO_snoc : ∀ (L : List Rg) (a b : UInt8), encO (L ++ [(a, b)]) = encO L ++ [92, a, 45, 92, b]
  | [], a, b => rfl
  | (c, d) :: r, a, b => by show 92 :: c :: 45 :: 92 :: d :: encO (r ++ [(a, b)]) = 92 :: c :: 45 :: 92 :: d :: (encO r ++ _); rw [encO_snoc r a b]

theorem encO_len : ∀ L : List Rg, (encO L).length = 5 * L.length
  | [] => rfl
  | (c, d) :: r => by show (encO r).length + 5 = 5 * (r.length + 1); rw [encO_len r]; omega

theorem name_f (L : List Rg) (x : UInt8) (xs : List UInt8) (c s : ByteArray) (hc : bl c = 91 :: enc L) (hs : bl s = x :: xs) (hx : x.toNat < 128) (hL : L ≠ []) (hl : L.length ≤ 1000) (hA : L.all okR = true) (hz : s.size ≤ 1099511627776) :
    laws_matchName.f c s = some (mB L x xs, true) := by
  unfold laws_matchName.f
  rw [hc, hs]
  simp only
  rw [dec_enc]
  simp only
  rw [if_pos ⟨⟨⟨hx, hL⟩, ⟨hl, hA⟩⟩, hz⟩]

def by8 (l : List Int) : List UInt8 := bl (strOfNums l)

theorem by8_len (l : List Int) : (by8 l).length = l.length := by unfold by8 strOfNums; simp [bl]

theorem str_cut (l : List Int) (i : Nat) (h : i < l.length) : bl (strOfNums ((l.take (i + 1)).drop i)) = [(by8 l)[i]'(by rw [by8_len]; exact h)] := by
  have e : (l.take (i + 1)).drop i = [l[i]] := by
    rw [List.drop_take, List.drop_eq_getElem_cons h, show i + 1 - i = 1 by omega, List.take_succ_cons, List.take_zero]
  rw [e]
  unfold by8 strOfNums
  simp [bl]

theorem loop_l (l0 l1 : List Int) (s : ByteArray) (x : UInt8) (xs : List UInt8) (hs : bl s = x :: xs) (hx : x.toNat < 128) (hz : s.size ≤ 2147483647) (hn : l0.length = l1.length) (h10 : l0.length ≤ 10) (hp : 0 < l0.length)
    (hA : ((by8 l0).zip (by8 l1)).all okR = true) :
    ∀ d i k (x7 : ByteArray) (x8 : Bool), i + d = l0.length → d + 1 < k → bl x7 = 91 :: encO (((by8 l0).zip (by8 l1)).take i) → x8 = ((((by8 l0).zip (by8 l1)).take i).any (inR x) && decide (xs = [])) →
      laws_FnMatchClasses.l0 k l0 l1 s x7 x8 (l0.length : Int) (i : Int) = some true := by
  have hzl : ((by8 l0).zip (by8 l1)).length = l0.length := by rw [List.length_zip, by8_len, by8_len]; omega
  obtain ⟨Z, hZ⟩ : ∃ Z, (by8 l0).zip (by8 l1) = Z := ⟨_, rfl⟩
  intro d
  induction d with
  | zero =>
    intro i k x7 x8 hi hk h7 h8
    obtain ⟨k, rfl⟩ : ∃ m, k = m + 1 := ⟨k - 1, by omega⟩
    rw [hZ] at h7 h8 hzl hA
    have ht : Z.take i = Z := List.take_of_length_le (by omega)
    rw [ht] at h7 h8
    have h7s : x7.size ≤ 100 := by rw [← bl_len, h7, List.length_cons, encO_len]; omega
    simp only [laws_FnMatchClasses.l0]
    have hc : bl (x7 ++ ⟨#[93]⟩) = 91 :: enc Z := by rw [bl_app, h7, enc_O]; rfl
    rw [if_neg (by omega), if_pos (by omega), name_f Z x xs (x7 ++ ⟨#[93]⟩) s hc hs hx (by intro q; rw [q] at hzl; simp at hzl; omega) (by omega) hA (by omega)]
    simp only [Option.bind_some]
    rw [if_pos trivial, h8]
    unfold mB
    simp
  | succ d ih =>
    intro i k x7 x8 hi hk h7 h8
    obtain ⟨k, rfl⟩ : ∃ m, k = m + 1 := ⟨k - 1, by omega⟩
    have hlt : i < l0.length := by omega
    have hlt1 : i < l1.length := by omega
    rw [hZ] at h7 h8 hzl hA ih
    have hiz : i < Z.length := by omega
    have hs7 : x7.size ≤ 100 := by rw [← bl_len, h7, List.length_cons, encO_len, List.length_take]; omega
    obtain ⟨a, ha⟩ : ∃ a, (by8 l0)[i]'(by rw [by8_len]; exact hlt) = a := ⟨_, rfl⟩
    obtain ⟨b, hb⟩ : ∃ b, (by8 l1)[i]'(by rw [by8_len]; exact hlt1) = b := ⟨_, rfl⟩
    have hZi : Z[i] = (a, b) := by
      subst hZ
      rw [List.getElem_zip, ha, hb]
    have ea : strOfNums ((l0.take (i + 1)).drop i) = ⟨#[a]⟩ := bl_inj (by rw [str_cut l0 i hlt, ha])
    have eb : strOfNums ((l1.take (i + 1)).drop i) = ⟨#[b]⟩ := bl_inj (by rw [str_cut l1 i hlt1, hb])
    have hab : okR (a, b) = true := by rw [← hZi]; exact List.all_eq_true.1 hA _ (List.getElem_mem hiz)
    simp only [laws_FnMatchClasses.l0]
    have z1 : (⟨#[a]⟩ : ByteArray).size = 1 := rfl
    have z2 : (⟨#[b]⟩ : ByteArray).size = 1 := rfl
    have z3 : (⟨#[92]⟩ : ByteArray).size = 1 := rfl
    have z4 : (⟨#[45, 92]⟩ : ByteArray).size = 2 := rfl
    have z5 : (⟨#[91]⟩ : ByteArray).size = 1 := rfl
    rw [if_pos (by omega), if_pos (by omega), w1 i (by omega), if_pos (by omega), if_pos (by omega), Int.toNat_natCast, Int.toNat_natCast, ea, eb]
    obtain ⟨one, hone⟩ : ∃ one : ByteArray, one = (((⟨#[92]⟩ : ByteArray) ++ ⟨#[a]⟩) ++ ⟨#[45, 92]⟩) ++ ⟨#[b]⟩ := ⟨_, rfl⟩
    have zo : one.size = 5 := by rw [hone]; simp only [ByteArray.size_append]; omega
    have bo : bl one = [92, a, 45, 92, b] := by rw [hone]; simp only [bl_app]; rfl
    rw [if_pos (by omega), if_pos (by rw [ByteArray.size_append]; omega), if_pos (by omega), if_pos (by simp only [ByteArray.size_append]; omega)]
    rw [← hone]
    rw [if_pos (by omega), if_pos (by rw [ByteArray.size_append]; omega)]
    have hc : bl (((⟨#[91]⟩ : ByteArray) ++ one) ++ ⟨#[93]⟩) = 91 :: enc [(a, b)] := by simp only [bl_app]; rw [bo]; rfl
    rw [name_f [(a, b)] x xs _ s hc hs hx (by simp) (by simp) (by simp only [List.all_cons, List.all_nil, Bool.and_true]; exact hab) (by omega)]
    simp only [Option.bind_some]
    rw [if_pos trivial]
    have hT : Z.take (i + 1) = Z.take i ++ [(a, b)] := by rw [List.take_succ_eq_append_getElem hiz, hZi]
    have h7' : bl (x7 ++ one) = 91 :: encO (Z.take (i + 1)) := by rw [bl_app, h7, bo, hT, encO_snoc]; rfl
    have hm : mB [(a, b)] x xs = (inR x (a, b) && decide (xs = [])) := by unfold mB; simp
    have h8' : (x8 || mB [(a, b)] x xs) = ((Z.take (i + 1)).any (inR x) && decide (xs = [])) := by
      rw [hm, h8, hT, List.any_append]
      simp only [List.any_cons, List.any_nil, Bool.or_false]
      cases (Z.take i).any (inR x) <;> cases inR x (a, b) <;> cases decide (xs = []) <;> rfl
    have IH := ih (i + 1) k (x7 ++ one)
    cases x8 with
    | true =>
      rw [if_pos rfl, if_pos (by omega)]
      exact IH true (by omega) (by omega) h7' (by rw [← h8']; rfl)
    | false =>
      rw [if_neg (by simp), if_pos (by omega)]
      exact IH _ (by omega) (by omega) h7' (by rw [← h8']; rfl)

theorem ok_zip (a b : List UInt8) (ha : plB a = true) (hb : plB b = true) : (a.zip b).all okR = true := by
  rw [List.all_eq_true]
  intro p hp
  obtain ⟨h1, h2⟩ := List.of_mem_zip (a := p.1) (b := p.2) hp
  have e1 := List.all_eq_true.1 ha _ h1
  have e2 := List.all_eq_true.1 hb _ h2
  unfold okR
  rw [e1, e2]; rfl

end Go.Proofs.YtmlcpnehihmhaaaDoor.Mt

namespace Go.Proofs.YtmlcpnehihmhaaaDoor.PX

open Go Go.RowKit Go.Lib Go.Proofs Go.Proofs.YtmlcpnehihmhaaaDoor Go.Proofs.YtmlcpnehihmhaaaDoor.Mt Go.Proofs.YtmlcpnehihmhaaaDoor.L

open Go.Proofs.YtmlcpnehihmhaaaDoorW.PrintWords

theorem pure_MatchClasses (l0 l1 : List Int) (s : ByteArray) (h0 : (∀ x ∈ l0, (Lit.int .u8 x).wf = true) ∧ l0.length ≤ maxLen) (h1 : (∀ x ∈ l1, (Lit.int .u8 x).wf = true) ∧ l1.length ≤ maxLen) : ∃ k, laws_FnMatchClasses.f k l0 l1 s = some true := by
  refine ⟨2147483700, ?_⟩
  obtain ⟨K, hK⟩ : ∃ K, K = 2147483698 := ⟨_, rfl⟩
  rw [show (2147483700 : Nat) = K + 1 + 1 by omega]
  have hk : 2147483660 < K := by omega
  clear hK
  have J1 : ∀ m, laws_FnMatchClasses.j1 (m + 1) l0 l1 s true = some true := fun m => by simp only [laws_FnMatchClasses.j1]; rfl
  have J0 : ∀ m, laws_FnMatchClasses.j0 (m + 1) l0 l1 s true = some true := fun m => by simp only [laws_FnMatchClasses.j0]; rfl
  unfold laws_FnMatchClasses.f
  split
  · exact J0 _
  · split
    · exact J0 _
    · by_cases hz : (s.size : Int) > 2147483647
      · rw [decide_eq_true hz]; exact J0 _
      · rw [decide_eq_false hz]
        simp only [laws_FnMatchClasses.j0]
        rw [if_neg (by simp)]
        by_cases hn : (l0.length : Int) = (l1.length : Int)
        · rw [if_pos hn]
          by_cases hp : (l0.length : Int) = 0
          · rw [if_pos hp]; exact J1 _
          · rw [if_neg hp]
            by_cases h10 : (l0.length : Int) > 10
            · rw [if_pos h10]; exact J1 _
            · rw [if_neg h10]
              have z0 : (strOfNums l0).size = l0.length := by have := by8_len l0; exact this
              have z1 : (strOfNums l1).size = l1.length := by have := by8_len l1; exact this
              obtain ⟨r, hr, hq⟩ := asked_f s (strOfNums l0) (strOfNums l1) (by omega) (by omega) (by omega) (K + 1) (by omega)
              rw [hr]
              simp only [Option.bind_some]
              cases r with
              | false => rw [if_neg (by simp)]; exact J1 _
              | true =>
                obtain ⟨q0, q1, q2, q3⟩ := hq rfl
                obtain ⟨t, ht⟩ := first_t s 47 (by omega) s.size 0 (K + 1) (by omega) (by omega)
                rw [if_pos rfl, show spec_RefFirst.f (K + 1) s 47 = some t from ht]
                simp only [Option.bind_some]
                cases decide (t ≥ 0) with
                | true => exact J1 _
                | false =>
                  simp only [laws_FnMatchClasses.j1]
                  rw [if_neg (by simp)]
                  cases hb : bl s with
                  | nil => exact absurd hb q3
                  | cons x xs =>
                    have hx : x.toNat < 128 := by
                      unfold plB at q2
                      rw [hb, List.all_cons, Bool.and_eq_true, decide_eq_true_eq] at q2
                      exact q2.1
                    exact loop_l l0 l1 s x xs hb hx (by omega) (by omega) (by omega) (by omega) (ok_zip _ _ q0 q1) l0.length 0 K ⟨#[91]⟩ false (by omega) (by omega) rfl rfl
        · rw [if_neg hn]; exact J1 _

end Go.Proofs.YtmlcpnehihmhaaaDoor.PX
