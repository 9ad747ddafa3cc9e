/- The row and the tied card of FnMatchClasses, out of its printed walk and its plain law. For every input that the statement lets in. -/
import Derived.Test.YtmlcpnehihmhaaaDoorZCardMatchClasses0
import Derived.Test.YtmlcpnehihmhaaaDoorZCardMatchClasses3
import Derived.Test.YtmlcpnehihmhaaaDoorZCardMatchClasses4
import Derived.Test.YtmlcpnehihmhaaaDoorProg
import Derived.Below
import Derived.Deep.Draws
import Derived.Deep.AppendLies
import Derived.Maps.AppendAt
import Derived.OwnWalk
import Derived.Laws.BytesArg
import Derived.Laws.MakeOwn
import Derived.Laws.OwnMore
import Derived.Deep.OwnRows
import Derived.Tactics
import Derived.Lib.ConvBytes
import Derived.Laws.Slices
import Derived.WalkKit
import Derived.KernelRfl
import Derived.RowKit3
import Derived.Deep.LoopGhost
import Derived.Deep.QuietTactic
import Derived.BigQuiet
import Derived.WideLaws
import Derived.Deep.DeepCutAuto
import Derived.Deep.CutBlock
import Derived.Deep.RegionHeld3
import Derived.Laws.Rows
import Derived.Lib.AppendStr
import Derived.ArgAppend
import Derived.Laws.IdiomCopy
import Derived.OrdersHeld
import Derived.Laws.BitsLemmas
import Derived.RowKit
import Derived.Laws.StructEq
namespace Go.Proofs.YtmlcpnehihmhaaaDoor.PX

open Go.RowKit Go.Proofs.YtmlcpnehihmhaaaDoorW.PrintWords Go.Proofs.YtmlcpnehihmhaaaDoorW.PrintLast Go.Proofs.YtmlcpnehihmhaaaDoorW.PrintMore

attribute [local go_sem] max2_int min2_int max_two min_two max_three min_three max_four min_four   -- for this text's walks alone

set_option linter.unusedVariables false

set_option linter.unusedSimpArgs false

def errW : Option Int → Value
  | none => .nilIface
  | some c => .iface 0 (.int .i64 c)

theorem errW_none : errW none = .nilIface := rfl

theorem errW_some (c : Int) : errW (some c) = .iface 0 (.int .i64 c) := rfl

theorem info5 : (Tryd.prog.info? 5).map (fun i => (i.zero, i.size, i.bytes)) = some (some (.int .u8 0), 1, 1) := by kernel_rfl

theorem bneNil (l : List UInt8) : (l != []) = !l.isEmpty := by cases l <;> rfl

theorem u8w (x : Int) : IntKind.u8.wrap x = x % 256 := by simp [IntKind.wrap, IntKind.bits, IntKind.signed]

theorem szL1 (a : UInt8) : (⟨#[a]⟩ : ByteArray).size = 1 := rfl

theorem szL2 (a b : UInt8) : (⟨#[a, b]⟩ : ByteArray).size = 2 := rfl

theorem szL3 (a b c : UInt8) : (⟨#[a, b, c]⟩ : ByteArray).size = 3 := rfl

end Go.Proofs.YtmlcpnehihmhaaaDoor.PX
namespace Go.Proofs.YtmlcpnehihmhaaaDoor.PX

open Go.RowKit Go.Proofs.YtmlcpnehihmhaaaDoorW.PrintWords Go.Proofs.YtmlcpnehihmhaaaDoorW.PrintLast Go.Proofs.YtmlcpnehihmhaaaDoorW.PrintMore

attribute [local go_sem] max2_int min2_int max_two min_two max_three min_three max_four min_four   -- for this text's walks alone

set_option linter.unusedVariables false

set_option linter.unusedSimpArgs false

def laws_refPlain.l0 : Nat → ByteArray → Int → Option (Bool)
  | 0, _, _ => none
  | k + 1, x0, x3 => if x3 < (x0.size : Int) then (if 0 ≤ x3 then (if (bt x0 x3) ≥ 128 then (some false) else (laws_refPlain.l0 k x0 (wrap64 (x3 + 1)))) else (none)) else (some true)

def laws_refPlain.f (k : Nat) (a0 : ByteArray) : Option (Bool) := laws_refPlain.l0 k a0 0

set_option maxHeartbeats 80000000 in
set_option maxRecDepth 100000 in
theorem laws_refPlain.calls (k : Nat) (a0 : ByteArray) (r : Bool) (w : World) (h : laws_refPlain.f k a0 = some r) :
    Calls Tryd.prog 7 #[.string a0] w fun e w' => e = .returned (.bool r) ∧ Drawn0 w w' := by
  have H : (laws_refPlain.l0 k a0 0) = some r := h
  clear h
  have H' := Aside0.mk H
  clear H
  go_enter Tryd.func7, Tryd.ntmps7
  go_wp2
  go_loopg [3] k (fun kq v3 w' => ∃ (x3_1 : Int), v3 = .int .i64 x3_1 ∧ Aside0 (laws_refPlain.l0 kq a0 x3_1 = some r) ∧ Aside0 (kq ≤ k) ∧ Drawn0 w w')
  case atStart => exact ⟨(0), (by first | rfl | (simp; done) | (simp [*]; done)), H', ⟨Nat.le_refl _⟩, by repeat (first | exact Drawn0.refl _ | apply Drawn0.step)⟩
  case round =>
    clear H'
    obtain ⟨x3_1, rfl, HA, HK1, ⟨m1, rfl⟩⟩ := hrel
    cases gk with
    | zero => exact absurd HA.out (by simp [laws_refPlain.l0])
    | succ k1 =>
      have H := HA.out
      clear HA
      simp only [laws_refPlain.l0] at H
      by_cases c2 : x3_1 < (a0.size : Int)
      · rw [if_pos c2] at H
        have c2b0 : decide (x3_1 < (a0.size : Int)) = true := decide_eq_true c2
        clear c2
        by_cases c3 : 0 ≤ x3_1
        · rw [if_pos c3] at H
          have c3b0 : decide (0 ≤ x3_1) = true := decide_eq_true c3
          clear c3
          by_cases c5 : (bt a0 x3_1) ≥ 128
          · rw [if_pos c5] at H
            have c5b0 : decide (128 ≤ (bt a0 x3_1)) = true := decide_eq_true c5
            clear c5
            obtain rfl := Option.some.inj H
            have p4 : 0 ≤ (x3_1 : Int) := of_decide_eq_true (by first | (with_reducible assumption) | assumption)
            have q4 : x3_1 < (a0.size : Int) := of_decide_eq_true (by first | (with_reducible assumption) | assumption)
            have hx4 := bt_at a0 x3_1
            replace p4 := eq_true p4
            replace q4 := eq_true q4
            go_wp2
            go_ret
            exact ⟨by first | rfl | (simp; done) | (simp [*]; done) | (simp [bneNil]; done), by repeat (first | exact Drawn0.refl _ | apply Drawn0.step)⟩
          · rw [if_neg c5] at H
            have c5b0 : decide (128 ≤ (bt a0 x3_1)) = false := decide_eq_false c5
            clear c5
            have H' := Aside0.mk H
            clear H
            have p4 : 0 ≤ (x3_1 : Int) := of_decide_eq_true (by first | (with_reducible assumption) | assumption)
            have q4 : x3_1 < (a0.size : Int) := of_decide_eq_true (by first | (with_reducible assumption) | assumption)
            have hx4 := bt_at a0 x3_1
            replace p4 := eq_true p4
            replace q4 := eq_true q4
            go_wp2
            go_roundg k1
            case measure => have := HK1.out; omega
            case rel => exact ⟨(wrap64 (x3_1 + 1)), (by first | rfl | (simp; done) | (simp [*]; done)), H', ⟨by have := HK1.out; omega⟩, by repeat (first | exact Drawn0.refl _ | apply Drawn0.step)⟩
        · rw [if_neg c3] at H
          exact absurd H (by simp)
      · rw [if_neg c2] at H
        have c2b0 : decide (x3_1 < (a0.size : Int)) = false := decide_eq_false c2
        clear c2
        obtain rfl := Option.some.inj H
        go_wp2
        go_ret
        exact ⟨by first | rfl | (simp; done) | (simp [*]; done) | (simp [bneNil]; done), by repeat (first | exact Drawn0.refl _ | apply Drawn0.step)⟩

def laws_matchAsked.l0 : Nat → ByteArray → Int → List ByteArray → Int → Int → Option (Bool)
  | 0, _, _, _, _, _ => none
  | k + 1, x0, x5, x10, x11, x12 => if x12 < x11 then (if 0 ≤ x12 then (if x12 < (x10.length : Int) then ((laws_refPlain.f k (rdOf ByteArray.empty x10 x12)).bind fun t102 => (if t102 = true then (laws_matchAsked.l0 k x0 (wrap64 (x5 + ((rdOf ByteArray.empty x10 x12).size : Int))) x10 x11 (wrap64 (x12 + 1))) else (some false))) else (none)) else (none)) else (if x5 ≤ 200 then (if x0.toList = ([] : List UInt8) then (some false) else ((laws_refPlain.f k x0).bind fun t103 => (some t103))) else (some false))

def laws_matchAsked.f (k : Nat) (a0 : ByteArray) (l1 : List ByteArray) : Option (Bool) := laws_matchAsked.l0 k a0 (a0.size : Int) l1 (l1.length : Int) 0

set_option maxHeartbeats 80000000 in
set_option maxRecDepth 100000 in
theorem laws_matchAsked.calls (k : Nat) (a0 : ByteArray) (A1 : Option Addr) (c1 : Nat) (l1 : List ByteArray) (r : Bool) (w : World) (hr1 : Kd.C Kd.string w A1 l1.length l1) (hc1 : l1.length ≤ c1) (h : laws_matchAsked.f k a0 l1 = some r) :
  Calls Tryd.prog 4 #[.string a0, .slice A1 l1.length c1] w fun e w' => e = .returned (.bool r) ∧ Drawn0 w w' := by
 have HR1 := Aside0.mk hr1
 have HC1 := Aside0.mk hc1
 clear hr1 hc1
 have H : (laws_matchAsked.l0 k a0 (a0.size : Int) l1 (l1.length : Int) 0) = some r := h
 clear h
 have H' := Aside0.mk H
 clear H
 go_enter Tryd.func4, Tryd.ntmps4
 go_wp2
 go_loopg [5, 12] k (fun kq v5 v12 w' => ∃ (x5_1 : Int) (x12_1 : Int), v5 = .int .i64 x5_1 ∧ v12 = .int .i64 x12_1 ∧ Aside0 (laws_matchAsked.l0 kq a0 x5_1 l1 (l1.length : Int) x12_1 = some r) ∧ Aside0 (kq ≤ k) ∧ Drawn0 w w')
 case atStart => exact ⟨((a0.size : Int)), (0), (by first | rfl | (simp; done) | (simp [*]; done)), (by first | rfl | (simp; done) | (simp [*]; done)), H', ⟨Nat.le_refl _⟩, by repeat (first | exact Drawn0.refl _ | apply Drawn0.step)⟩
 case round =>
  clear H'
  try clear c1
  try clear p2
  obtain ⟨x5_1, x12_1, rfl, rfl, HA, HK1, ⟨m1, rfl⟩⟩ := hrel
  cases gk with
  | zero => exact absurd HA.out (by simp [laws_matchAsked.l0])
  | succ k1 =>
   have H := HA.out
   clear HA
   simp only [laws_matchAsked.l0] at H
   by_cases c3 : x12_1 < (l1.length : Int)
   ·
    rw [if_pos c3] at H
    have c3b0 : decide (x12_1 < (l1.length : Int)) = true := decide_eq_true c3
    clear c3
    by_cases c4 : 0 ≤ x12_1
    ·
     rw [if_pos c4] at H
     have c4b0 : decide (0 ≤ x12_1) = true := decide_eq_true c4
     clear c4
     by_cases c5 : x12_1 < (l1.length : Int)
     ·
      rw [if_pos c5] at H
      have c5b0 : decide (x12_1 < (l1.length : Int)) = true := decide_eq_true c5
      clear c5
      replace H := Option.bind_eq_some_iff.mp H
      obtain ⟨t102, A60, H⟩ := H
      replace H : (if t102 = true then (laws_matchAsked.l0 k1 a0 (wrap64 (x5_1 + ((rdOf ByteArray.empty l1 x12_1).size : Int))) l1 (l1.length : Int) (wrap64 (x12_1 + 1))) else (some false)) = some r := H
      have A6 := Aside0.mk A60
      clear A60
      by_cases c7 : t102 = true
      ·
       subst c7
       have H1 : (laws_matchAsked.l0 k1 a0 (wrap64 (x5_1 + ((rdOf ByteArray.empty l1 x12_1).size : Int))) l1 (l1.length : Int) (wrap64 (x12_1 + 1))) = some r := by rw [if_pos rfl] at H; exact H
       clear H
       have H := H1
       clear H1
       have H' := Aside0.mk H
       clear H
       have p101 : 0 ≤ (x12_1 : Int) := of_decide_eq_true (by first | (with_reducible assumption) | assumption)
       have q101 : x12_1 < (l1.length : Int) := of_decide_eq_true (by first | (with_reducible assumption) | assumption)
       obtain ⟨ad101, e101, hx101_0⟩ := Kd.at_string HR1.out x12_1 p101 q101
       cases e101
       replace p101 := eq_true p101
       replace q101 := eq_true q101
       go_wp2_with (first | ((with_reducible refine gate_callee (f := 7) rfl ?_); refine goesL_ (some 21) rfl rfl Tryd.func7 (by kernel_rfl) rfl #[.string (rdOf ByteArray.empty l1 x12_1)] rfl (by (try simp only [List.map_toArray, List.map_cons, List.map_nil]); first | done | rfl | (simp only [List.length_drop, List.length_take]; rfl)) ?_; (with_reducible refine (laws_refPlain.calls k1 (rdOf ByteArray.empty l1 x12_1) true _ A6.out).mono ?_); rintro e w' ⟨rfl, ⟨nd, rfl⟩⟩; refine ⟨_, rfl, ?_⟩))
       go_roundg k1
       case measure => have := HK1.out; omega
       case rel => exact ⟨(wrap64 (x5_1 + ((rdOf ByteArray.empty l1 x12_1).size : Int))), (wrap64 (x12_1 + 1)), (by first | rfl | (simp; done) | (simp [*]; done)), (by first | rfl | (simp; done) | (simp [*]; done)), H', ⟨by have := HK1.out; omega⟩, by repeat (first | exact Drawn0.refl _ | apply Drawn0.step)⟩
      ·
       replace c7 := Bool.eq_false_iff.mpr c7
       subst c7
       have H1 : (some false) = some r := by rw [if_neg (show ¬ (false = true) by decide)] at H; exact H
       clear H
       have H := H1
       clear H1
       obtain rfl := Option.some.inj H
       have p101 : 0 ≤ (x12_1 : Int) := of_decide_eq_true (by first | (with_reducible assumption) | assumption)
       have q101 : x12_1 < (l1.length : Int) := of_decide_eq_true (by first | (with_reducible assumption) | assumption)
       obtain ⟨ad101, e101, hx101_0⟩ := Kd.at_string HR1.out x12_1 p101 q101
       cases e101
       replace p101 := eq_true p101
       replace q101 := eq_true q101
       go_wp2_with (first | ((with_reducible refine gate_callee (f := 7) rfl ?_); refine goesL_ (some 21) rfl rfl Tryd.func7 (by kernel_rfl) rfl #[.string (rdOf ByteArray.empty l1 x12_1)] rfl (by (try simp only [List.map_toArray, List.map_cons, List.map_nil]); first | done | rfl | (simp only [List.length_drop, List.length_take]; rfl)) ?_; (with_reducible refine (laws_refPlain.calls k1 (rdOf ByteArray.empty l1 x12_1) false _ A6.out).mono ?_); rintro e w' ⟨rfl, ⟨nd, rfl⟩⟩; refine ⟨_, rfl, ?_⟩))
       go_ret
       exact ⟨by first | rfl | (simp; done) | (simp [*]; done) | (simp [bneNil]; done), by repeat (first | exact Drawn0.refl _ | apply Drawn0.step)⟩
     ·
      rw [if_neg c5] at H
      exact absurd H (by simp)
    ·
     rw [if_neg c4] at H
     exact absurd H (by simp)
   ·
    rw [if_neg c3] at H
    have c3b0 : decide (x12_1 < (l1.length : Int)) = false := decide_eq_false c3
    clear c3
    by_cases c8 : x5_1 ≤ 200
    ·
     rw [if_pos c8] at H
     have c8b0 : decide (x5_1 ≤ 200) = true := decide_eq_true c8
     clear c8
     by_cases c9 : a0.toList = ([] : List UInt8)
     ·
      rw [if_pos c9] at H
      have c9b0 : (a0.toList == ([] : List UInt8)) = true := beq_iff_eq.mpr c9
      have c9b1 : (a0.toList != ([] : List UInt8)) = false := bne_eq_false_iff_eq.mpr c9
      clear c9
      obtain rfl := Option.some.inj H
      go_wp2
      go_ret
      exact ⟨by first | rfl | (simp; done) | (simp [*]; done) | (simp [bneNil]; done), by repeat (first | exact Drawn0.refl _ | apply Drawn0.step)⟩
     ·
      rw [if_neg c9] at H
      have c9b0 : (a0.toList == ([] : List UInt8)) = false := beq_eq_false_iff_ne.mpr c9
      have c9b1 : (a0.toList != ([] : List UInt8)) = true := bne_iff_ne.mpr c9
      replace H := Option.bind_eq_some_iff.mp H
      obtain ⟨t103, A100, H⟩ := H
      replace H : (some t103) = some r := H
      have A10 := Aside0.mk A100
      clear A100
      obtain rfl := Option.some.inj H
      go_wp2_with (first | (go_at_call 7; (with_reducible refine (laws_refPlain.calls k1 a0 t103 _ A10.out).mono ?_); rintro e w' ⟨rfl, ⟨nd, rfl⟩⟩))
      go_ret
      exact ⟨by first | rfl | (simp; done) | (simp [*]; done) | (simp [bneNil]; done), by repeat (first | exact Drawn0.refl _ | apply Drawn0.step)⟩
    ·
     rw [if_neg c8] at H
     have c8b0 : decide (x5_1 ≤ 200) = false := decide_eq_false c8
     clear c8
     obtain rfl := Option.some.inj H
     go_wp2
     go_ret
     exact ⟨by first | rfl | (simp; done) | (simp [*]; done) | (simp [bneNil]; done), by repeat (first | exact Drawn0.refl _ | apply Drawn0.step)⟩

def spec_RefFirst.l0 : Nat → ByteArray → Int → Int → Option (Int)
  | 0, _, _, _ => none
  | k + 1, x0, x1, x5 => if x5 < (x0.size : Int) then (if 0 ≤ x5 then (if (bt x0 x5) = x1 then (some x5) else (spec_RefFirst.l0 k x0 x1 (wrap64 (x5 + 1)))) else (none)) else (some (-1))

def spec_RefFirst.f (k : Nat) (a0 : ByteArray) (a1 : Int) : Option (Int) := spec_RefFirst.l0 k a0 a1 0

set_option maxHeartbeats 80000000 in
set_option maxRecDepth 100000 in
theorem spec_RefFirst.calls (k : Nat) (a0 : ByteArray) (a1 : Int) (r : Int) (w : World) (h : spec_RefFirst.f k a0 a1 = some r) :
    Calls Tryd.prog 5 #[.string a0, .int .u8 a1] w fun e w' => e = .returned (.int .i64 r) ∧ Drawn0 w w' := by
  have H : (spec_RefFirst.l0 k a0 a1 0) = some r := h
  clear h
  have H' := Aside0.mk H
  clear H
  go_enter Tryd.func5, Tryd.ntmps5
  go_wp2
  go_loopg [5] k (fun kq v5 w' => ∃ (x5_1 : Int), v5 = .int .i64 x5_1 ∧ Aside0 (spec_RefFirst.l0 kq a0 a1 x5_1 = some r) ∧ Aside0 (kq ≤ k) ∧ Drawn0 w w')
  case atStart => exact ⟨(0), (by first | rfl | (simp; done) | (simp [*]; done)), H', ⟨Nat.le_refl _⟩, by repeat (first | exact Drawn0.refl _ | apply Drawn0.step)⟩
  case round =>
    clear H'
    try clear p2
    obtain ⟨x5_1, rfl, HA, HK1, ⟨m1, rfl⟩⟩ := hrel
    cases gk with
    | zero => exact absurd HA.out (by simp [spec_RefFirst.l0])
    | succ k1 =>
      have H := HA.out
      clear HA
      simp only [spec_RefFirst.l0] at H
      by_cases c3 : x5_1 < (a0.size : Int)
      · rw [if_pos c3] at H
        have c3b0 : decide (x5_1 < (a0.size : Int)) = true := decide_eq_true c3
        clear c3
        by_cases c4 : 0 ≤ x5_1
        · rw [if_pos c4] at H
          have c4b0 : decide (0 ≤ x5_1) = true := decide_eq_true c4
          clear c4
          by_cases c6 : (bt a0 x5_1) = a1
          · rw [if_pos c6] at H
            have c6b0 : ((bt a0 x5_1) == a1) = true := beq_iff_eq.mpr c6
            have c6b1 : ((bt a0 x5_1) != a1) = false := bne_eq_false_iff_eq.mpr c6
            clear c6
            obtain rfl := Option.some.inj H
            have p5 : 0 ≤ (x5_1 : Int) := of_decide_eq_true (by first | (with_reducible assumption) | assumption)
            have q5 : x5_1 < (a0.size : Int) := of_decide_eq_true (by first | (with_reducible assumption) | assumption)
            have hx5 := bt_at a0 x5_1
            replace p5 := eq_true p5
            replace q5 := eq_true q5
            go_wp2
            go_ret
            exact ⟨by first | rfl | (simp; done) | (simp [*]; done) | (simp [bneNil]; done), by repeat (first | exact Drawn0.refl _ | apply Drawn0.step)⟩
          · rw [if_neg c6] at H
            have c6b0 : ((bt a0 x5_1) == a1) = false := beq_eq_false_iff_ne.mpr c6
            have c6b1 : ((bt a0 x5_1) != a1) = true := bne_iff_ne.mpr c6
            have H' := Aside0.mk H
            clear H
            have p5 : 0 ≤ (x5_1 : Int) := of_decide_eq_true (by first | (with_reducible assumption) | assumption)
            have q5 : x5_1 < (a0.size : Int) := of_decide_eq_true (by first | (with_reducible assumption) | assumption)
            have hx5 := bt_at a0 x5_1
            replace p5 := eq_true p5
            replace q5 := eq_true q5
            go_wp2
            go_roundg k1
            case measure => have := HK1.out; omega
            case rel => exact ⟨(wrap64 (x5_1 + 1)), (by first | rfl | (simp; done) | (simp [*]; done)), H', ⟨by have := HK1.out; omega⟩, by repeat (first | exact Drawn0.refl _ | apply Drawn0.step)⟩
        · rw [if_neg c4] at H
          exact absurd H (by simp)
      · rw [if_neg c3] at H
        have c3b0 : decide (x5_1 < (a0.size : Int)) = false := decide_eq_false c3
        clear c3
        obtain rfl := Option.some.inj H
        go_wp2
        go_ret
        exact ⟨by first | rfl | (simp; done) | (simp [*]; done) | (simp [bneNil]; done), by repeat (first | exact Drawn0.refl _ | apply Drawn0.step)⟩

end Go.Proofs.YtmlcpnehihmhaaaDoor.PX
