/- The row and the tied card of FnSemverLooseStrict, out of its printed walk and its plain law. For every input that the statement lets in. -/
import Derived.Test.YtjgedenoaocfjaaGreatDoorZCardSemverLooseStrict1
import Derived.Test.YtjgedenoaocfjaaGreatDoorZCardSemverLooseStrict4
import Derived.Test.YtjgedenoaocfjaaGreatDoorZCardSemverLooseStrict7
import Derived.Test.YtjgedenoaocfjaaGreatDoorZCardSemverLooseStrict8
import Derived.Test.YtjgedenoaocfjaaGreatDoorProg
import Derived.Below
import Derived.Deep.Draws
import Derived.Deep.AppendLies
import Derived.Maps.AppendAt
import Derived.OwnWalk
import Derived.Laws.BytesArg
import Derived.Laws.MakeOwn
import Derived.Laws.OwnMore
import Derived.Deep.OwnRows
import Derived.Tactics
import Derived.Lib.ConvBytes
import Derived.Laws.Slices
import Derived.WalkKit
import Derived.KernelRfl
import Derived.RowKit3
import Derived.Deep.LoopGhost
import Derived.Deep.QuietTactic
import Derived.BigQuiet
import Derived.WideLaws
import Derived.Deep.DeepCutAuto
import Derived.Deep.CutBlock
import Derived.Deep.RegionHeld3
import Derived.Laws.Rows
import Derived.Lib.AppendStr
import Derived.ArgAppend
import Derived.Laws.IdiomCopy
import Derived.OrdersHeld
import Derived.Laws.BitsLemmas
import Derived.RowKit
namespace Go.Proofs.YtjgedenoaocfjaaGreatDoor.PX

open Go.RowKit Go.Proofs.YtjgedenoaocfjaaGreatDoorW.PrintWords Go.Proofs.YtjgedenoaocfjaaGreatDoorW.PrintLast Go.Proofs.YtjgedenoaocfjaaGreatDoorW.PrintMore

attribute [local go_sem] max2_int min2_int max_two min_two max_three min_three max_four min_four   -- for this text's walks alone

set_option linter.unusedVariables false

set_option linter.unusedSimpArgs false

def errW : Option Int → Value
  | none => .nilIface
  | some c => .iface 0 (.int .i64 c)

theorem errW_none : errW none = .nilIface := rfl

theorem errW_some (c : Int) : errW (some c) = .iface 0 (.int .i64 c) := rfl

theorem info9 : (Tryz.prog.info? 9).map (fun i => (i.zero, i.size, i.bytes)) = some (some (.string ⟨#[]⟩), 1, 16) := by kernel_rfl

theorem bneNil (l : List UInt8) : (l != []) = !l.isEmpty := by cases l <;> rfl

theorem u8w (x : Int) : IntKind.u8.wrap x = x % 256 := by simp [IntKind.wrap, IntKind.bits, IntKind.signed]

theorem szL1 (a : UInt8) : (⟨#[a]⟩ : ByteArray).size = 1 := rfl

theorem szL2 (a b : UInt8) : (⟨#[a, b]⟩ : ByteArray).size = 2 := rfl

theorem szL3 (a b c : UInt8) : (⟨#[a, b, c]⟩ : ByteArray).size = 3 := rfl

structure S32 where
  f0 : Int
  f1 : Int
  f2 : Int
  f3 : ByteArray
  f4 : ByteArray

end Go.Proofs.YtjgedenoaocfjaaGreatDoor.PX
namespace Go.Proofs.YtjgedenoaocfjaaGreatDoor.PX

open Go.RowKit Go.Proofs.YtjgedenoaocfjaaGreatDoorW.PrintWords Go.Proofs.YtjgedenoaocfjaaGreatDoorW.PrintLast Go.Proofs.YtjgedenoaocfjaaGreatDoorW.PrintMore

attribute [local go_sem] max2_int min2_int max_two min_two max_three min_three max_four min_four   -- for this text's walks alone

set_option linter.unusedVariables false

set_option linter.unusedSimpArgs false

def laws_svShort.l0 : Nat → List ByteArray → Int → Int → Option (Bool)
  | 0, _, _, _ => none
  | k + 1, x5, x6, x7 => if x7 < x6 then (if 0 ≤ x7 then (if x7 < (x5.length : Int) then (if ((rdOf ByteArray.empty x5 x7).size : Int) > 65536 then (some false) else (laws_svShort.l0 k x5 x6 (wrap64 (x7 + 1)))) else (none)) else (none)) else (some true)

def laws_svShort.f (k : Nat) (l0 : List ByteArray) : Option (Bool) := laws_svShort.l0 k l0 (l0.length : Int) 0

set_option maxHeartbeats 80000000 in
set_option maxRecDepth 100000 in
theorem laws_svShort.calls (k : Nat) (A0 : Option Addr) (c0 : Nat) (l0 : List ByteArray) (r : Bool) (w : World) (hr0 : Kd.C Kd.string w A0 l0.length l0) (hc0 : l0.length ≤ c0) (h : laws_svShort.f k l0 = some r) :
    Calls Tryz.prog 8 #[.slice A0 l0.length c0] w fun e w' => e = .returned (.bool r) ∧ Drawn0 w w' := by
  have HR0 := Aside0.mk hr0
  have HC0 := Aside0.mk hc0
  clear hr0 hc0
  have H : (laws_svShort.l0 k l0 (l0.length : Int) 0) = some r := h
  clear h
  have H' := Aside0.mk H
  clear H
  go_enter Tryz.func8, Tryz.ntmps8
  go_wp2
  go_loopg [7] k (fun kq v7 w' => ∃ (x7_1 : Int), v7 = .int .i64 x7_1 ∧ Aside0 (laws_svShort.l0 kq l0 (l0.length : Int) x7_1 = some r) ∧ Aside0 (kq ≤ k) ∧ Drawn0 w w')
  case atStart => exact ⟨(0), (by first | rfl | (simp; done) | (simp [*]; done)), H', ⟨Nat.le_refl _⟩, by repeat (first | exact Drawn0.refl _ | apply Drawn0.step)⟩
  case round =>
    clear H'
    obtain ⟨x7_1, rfl, HA, HK1, ⟨m1, rfl⟩⟩ := hrel
    cases gk with
    | zero => exact absurd HA.out (by simp [laws_svShort.l0])
    | succ k1 =>
      have H := HA.out
      clear HA
      simp only [laws_svShort.l0] at H
      by_cases c2 : x7_1 < (l0.length : Int)
      · rw [if_pos c2] at H
        have c2b0 : decide (x7_1 < (l0.length : Int)) = true := decide_eq_true c2
        clear c2
        by_cases c3 : 0 ≤ x7_1
        · rw [if_pos c3] at H
          have c3b0 : decide (0 ≤ x7_1) = true := decide_eq_true c3
          clear c3
          by_cases c4 : x7_1 < (l0.length : Int)
          · rw [if_pos c4] at H
            have c4b0 : decide (x7_1 < (l0.length : Int)) = true := decide_eq_true c4
            clear c4
            by_cases c5 : ((rdOf ByteArray.empty l0 x7_1).size : Int) > 65536
            · rw [if_pos c5] at H
              have c5b0 : decide (65536 < ((rdOf ByteArray.empty l0 x7_1).size : Int)) = true := decide_eq_true c5
              have c5b1 : decide (65536 < (rdOf ByteArray.empty l0 x7_1).size) = true := decide_eq_true (by omega)
              clear c5
              obtain rfl := Option.some.inj H
              have p101 : 0 ≤ (x7_1 : Int) := of_decide_eq_true (by first | (with_reducible assumption) | assumption)
              have q101 : x7_1 < (l0.length : Int) := of_decide_eq_true (by first | (with_reducible assumption) | assumption)
              obtain ⟨ad101, e101, hx101_0⟩ := Kd.at_string HR0.out x7_1 p101 q101
              cases e101
              replace p101 := eq_true p101
              replace q101 := eq_true q101
              go_wp2
              go_ret
              exact ⟨by first | rfl | (simp; done) | (simp [*]; done) | (simp [bneNil]; done), by repeat (first | exact Drawn0.refl _ | apply Drawn0.step)⟩
            · rw [if_neg c5] at H
              have c5b0 : decide (65536 < ((rdOf ByteArray.empty l0 x7_1).size : Int)) = false := decide_eq_false c5
              have c5b1 : decide (65536 < (rdOf ByteArray.empty l0 x7_1).size) = false := decide_eq_false (by omega)
              clear c5
              have H' := Aside0.mk H
              clear H
              have p101 : 0 ≤ (x7_1 : Int) := of_decide_eq_true (by first | (with_reducible assumption) | assumption)
              have q101 : x7_1 < (l0.length : Int) := of_decide_eq_true (by first | (with_reducible assumption) | assumption)
              obtain ⟨ad101, e101, hx101_0⟩ := Kd.at_string HR0.out x7_1 p101 q101
              cases e101
              replace p101 := eq_true p101
              replace q101 := eq_true q101
              go_wp2
              go_roundg k1
              case measure => have := HK1.out; omega
              case rel => exact ⟨(wrap64 (x7_1 + 1)), (by first | rfl | (simp; done) | (simp [*]; done)), H', ⟨by have := HK1.out; omega⟩, by repeat (first | exact Drawn0.refl _ | apply Drawn0.step)⟩
          · rw [if_neg c4] at H
            exact absurd H (by simp)
        · rw [if_neg c3] at H
          exact absurd H (by simp)
      · rw [if_neg c2] at H
        have c2b0 : decide (x7_1 < (l0.length : Int)) = false := decide_eq_false c2
        clear c2
        obtain rfl := Option.some.inj H
        go_wp2
        go_ret
        exact ⟨by first | rfl | (simp; done) | (simp [*]; done) | (simp [bneNil]; done), by repeat (first | exact Drawn0.refl _ | apply Drawn0.step)⟩

def spec_Identifiers.l0 : Nat → ByteArray → List ByteArray → Int → Int → Option (List ByteArray)
  | 0, _, _, _, _ => none
  | k + 1, x0, x3, x4, x5 => if x5 < (x0.size : Int) then (if 0 ≤ x5 then (if (bt x0 x5) = 46 then (if 0 ≤ x4 then (if x4 ≤ x5 then (if x5 ≤ (x0.size : Int) then (if x3.length < 8796093022208 then (spec_Identifiers.l0 k x0 (x3 ++ [x0.extract (x4 : Int).toNat (x5 : Int).toNat]) (wrap64 (x5 + 1)) (wrap64 (x5 + 1))) else (none)) else (none)) else (none)) else (none)) else (spec_Identifiers.l0 k x0 x3 x4 (wrap64 (x5 + 1)))) else (none)) else (if 0 ≤ x4 then (if x4 ≤ (x0.size : Int) then (if x3.length < 8796093022208 then (some (x3 ++ [x0.extract (x4 : Int).toNat x0.size])) else (none)) else (none)) else (none))

def spec_Identifiers.f (k : Nat) (a0 : ByteArray) : Option (List ByteArray) := spec_Identifiers.l0 k a0 ([] : List ByteArray) 0 0

set_option maxHeartbeats 80000000 in
set_option maxRecDepth 100000 in
theorem spec_Identifiers.calls (k : Nat) (a0 : ByteArray) (r : List ByteArray) (w : World) (h : spec_Identifiers.f k a0 = some r) :
  Calls Tryz.prog 34 #[.string a0] w fun e w' => ∃ v0_ : Value, e = .returned (v0_) ∧ Kd.R Kd.string 9 w' w.heap.size (fun _ => True) v0_ r ∧ Below w.heap.size w w' := by
 have HB := Aside0.mk (Below.refl w.heap.size w)
 have H : (spec_Identifiers.l0 k a0 ([] : List ByteArray) 0 0) = some r := h
 clear h
 have H' := Aside0.mk H
 clear H
 go_enter Tryz.func34, Tryz.ntmps34
 go_wp2
 go_loopg [3, 4, 5] k (fun kq v3 v4 v5 w' => ∃ (x3_1 : List ByteArray) (x4_1 : Int) (x5_1 : Int), v4 = .int .i64 x4_1 ∧ v5 = .int .i64 x5_1 ∧ Aside0 (spec_Identifiers.l0 kq a0 x3_1 x4_1 x5_1 = some r) ∧ Aside0 (kq ≤ k) ∧ Aside0 (Kd.R Kd.string 9 w' w.heap.size (fun _ => True) v3 x3_1) ∧ Aside0 (Below w.heap.size w w'))
 case atStart => exact ⟨(([] : List ByteArray)), (0), (0), (by first | rfl | (simp; done) | (simp [*]; done)), (by first | rfl | (simp; done) | (simp [*]; done)), H', ⟨Nat.le_refl _⟩, ⟨by first | exact Kd.R_nil _ _ _ _ _ | exact Kd.N_nil _ _ _ _ _ | exact Kd.V_nil _ _ _ _ _ | exact Kd.Q_nil _ _ _ _ _ | exact Kd.S_nil _ _ _ _ _⟩, ⟨by repeat (first | (with_reducible first | exact HB.out | apply below_alloc | apply pw_below_drewN | apply below_drew1) | exact HB.out)⟩⟩
 case round =>
  clear H'
  obtain ⟨x3_1, x4_1, x5_1, rfl, rfl, HA, HK1, HO_3, HB⟩ := hrel
  cases gk with
  | zero => exact absurd HA.out (by simp [spec_Identifiers.l0])
  | succ k1 =>
   have H := HA.out
   clear HA
   simp only [spec_Identifiers.l0] at H
   by_cases c2 : x5_1 < (a0.size : Int)
   ·
    rw [if_pos c2] at H
    have c2b0 : decide (x5_1 < (a0.size : Int)) = true := decide_eq_true c2
    clear c2
    by_cases c3 : 0 ≤ x5_1
    ·
     rw [if_pos c3] at H
     have c3b0 : decide (0 ≤ x5_1) = true := decide_eq_true c3
     clear c3
     by_cases c5 : (bt a0 x5_1) = 46
     ·
      rw [if_pos c5] at H
      have c5b0 : ((bt a0 x5_1) == 46) = true := beq_iff_eq.mpr c5
      have c5b1 : ((bt a0 x5_1) != 46) = false := bne_eq_false_iff_eq.mpr c5
      clear c5
      by_cases c6 : 0 ≤ x4_1
      ·
       rw [if_pos c6] at H
       have c6b0 := eq_true c6
       have c6b1 : decide (0 ≤ x4_1) = true := decide_eq_true c6
       clear c6
       by_cases c7 : x4_1 ≤ x5_1
       ·
        rw [if_pos c7] at H
        have c7b0 := eq_true c7
        have c7b1 : decide (x4_1 ≤ x5_1) = true := decide_eq_true c7
        clear c7
        by_cases c8 : x5_1 ≤ (a0.size : Int)
        ·
         rw [if_pos c8] at H
         have c8b0 := eq_true c8
         have c8b1 : decide (x5_1 ≤ (a0.size : Int)) = true := decide_eq_true c8
         clear c8
         by_cases c9 : x3_1.length < 8796093022208
         ·
          rw [if_pos c9] at H
          have LMc9 := Aside0.mk c9
          clear c9
          obtain ⟨y136, hy136⟩ : ∃ y_ : List ByteArray, y_ = (x3_1 ++ [a0.extract (x4_1 : Int).toNat (x5_1 : Int).toNat]) := ⟨_, rfl⟩
          replace H : (spec_Identifiers.l0 k1 a0 y136 (wrap64 (x5_1 + 1)) (wrap64 (x5_1 + 1))) = some r := by first | (rw [hy136]; with_reducible exact H) | (have H2_ := (Option.bind_some _ _).symm.trans H; rw [hy136]; with_reducible exact H2_) | (have H2_ := (Option.bind_some _ _).symm.trans H; with_reducible exact H2_) | with_reducible exact H | (rw [hy136]; exact H) | exact H
          have Ny136 := Aside0.mk hy136
          clear hy136
          have H' := Aside0.mk H
          clear H
          have p4 : 0 ≤ (x5_1 : Int) := of_decide_eq_true (by first | (with_reducible assumption) | assumption)
          have q4 : x5_1 < (a0.size : Int) := of_decide_eq_true (by first | (with_reducible assumption) | assumption)
          have hx4 := bt_at a0 x5_1
          replace p4 := eq_true p4
          replace q4 := eq_true q4
          go_wp2_with (first | ((with_reducible refine gate_builtin (b := .append) (xs := #[.tmp 16, .tmp 21]) rfl ?_); at_builtin; refine Kd.R_append Kd.string (w0 := w) w.heap.size rfl (.tmp 16) (.tmp 21) 46 9 (.string ⟨#[]⟩) 16 rfl Tryz.underlying46 info9 rfl (by decide) (by omega) u3 x3_1 (a0.extract (x4_1 : Int).toNat (x5_1 : Int).toNat) [.string (a0.extract (x4_1 : Int).toNat (x5_1 : Int).toNat)] (fun _ => True) (fun _ => False) rfl rfl ?aP (fun _ hk => hk.elim) ?aF ?aO ?aB ?aS ?aL ?_; (case aP => exact rfl); (case aB => exact (by repeat (first | (with_reducible first | exact HB.out | apply below_alloc | apply pw_below_drewN | apply below_drew1) | exact HB.out))); (case aF => exact (fun _ _ => trivial)); (case aO => exact (by (with_reducible repeat (first | apply Kd.R_alloc | apply Kd.R_drewN | apply Kd.R_drew)); exact HO_3.out)); (case aS => exact (below_size (by repeat (first | (with_reducible first | exact HB.out | apply below_alloc | apply pw_below_drewN | apply below_drew1) | exact HB.out)))); (case aL => have := LMc9.out; omega); intro v137 w10 ho hb hg hat; rw [← Ny136.out] at ho; have n0_ := Aside0.mk (hb); have n1_ := Aside0.mk (ho); clear HB; clear HO_3; have HB := n0_; have HO138 := n1_; clear n0_ n1_; clear ho hb hg hat))
          go_roundg k1
          case measure => have := HK1.out; omega
          case rel => exact ⟨(y136), (wrap64 (x5_1 + 1)), (wrap64 (x5_1 + 1)), (by first | rfl | (simp; done) | (simp [*]; done)), (by first | rfl | (simp; done) | (simp [*]; done)), H', ⟨by have := HK1.out; omega⟩, ⟨by (with_reducible repeat (first | apply Kd.R_alloc | apply Kd.R_drewN | apply Kd.R_drew)); exact HO138.out⟩, ⟨by repeat (first | (with_reducible first | exact HB.out | apply below_alloc | apply pw_below_drewN | apply below_drew1) | exact HB.out)⟩⟩
         ·
          rw [if_neg c9] at H
          exact absurd H (by simp)
        ·
         rw [if_neg c8] at H
         exact absurd H (by simp)
       ·
        rw [if_neg c7] at H
        exact absurd H (by simp)
      ·
       rw [if_neg c6] at H
       exact absurd H (by simp)
     ·
      rw [if_neg c5] at H
      have c5b0 : ((bt a0 x5_1) == 46) = false := beq_eq_false_iff_ne.mpr c5
      have c5b1 : ((bt a0 x5_1) != 46) = true := bne_iff_ne.mpr c5
      have H' := Aside0.mk H
      clear H
      have p4 : 0 ≤ (x5_1 : Int) := of_decide_eq_true (by first | (with_reducible assumption) | assumption)
      have q4 : x5_1 < (a0.size : Int) := of_decide_eq_true (by first | (with_reducible assumption) | assumption)
      have hx4 := bt_at a0 x5_1
      replace p4 := eq_true p4
      replace q4 := eq_true q4
      go_wp2
      go_roundg k1
      case measure => have := HK1.out; omega
      case rel => exact ⟨(x3_1), (x4_1), (wrap64 (x5_1 + 1)), (by first | rfl | (simp; done) | (simp [*]; done)), (by first | rfl | (simp; done) | (simp [*]; done)), H', ⟨by have := HK1.out; omega⟩, ⟨by (with_reducible repeat (first | apply Kd.R_alloc | apply Kd.R_drewN | apply Kd.R_drew)); exact HO_3.out⟩, ⟨by repeat (first | (with_reducible first | exact HB.out | apply below_alloc | apply pw_below_drewN | apply below_drew1) | exact HB.out)⟩⟩
    ·
     rw [if_neg c3] at H
     exact absurd H (by simp)
   ·
    rw [if_neg c2] at H
    have c2b0 : decide (x5_1 < (a0.size : Int)) = false := decide_eq_false c2
    clear c2
    by_cases c11 : 0 ≤ x4_1
    ·
     rw [if_pos c11] at H
     have c11b0 := eq_true c11
     have c11b1 : decide (0 ≤ x4_1) = true := decide_eq_true c11
     clear c11
     by_cases c12 : x4_1 ≤ (a0.size : Int)
     ·
      rw [if_pos c12] at H
      have c12b0 := eq_true c12
      have c12b1 : decide (x4_1 ≤ (a0.size : Int)) = true := decide_eq_true c12
      clear c12
      by_cases c13 : x3_1.length < 8796093022208
      ·
       rw [if_pos c13] at H
       have LMc13 := Aside0.mk c13
       clear c13
       obtain ⟨y139, hy139⟩ : ∃ y_ : List ByteArray, y_ = (x3_1 ++ [a0.extract (x4_1 : Int).toNat a0.size]) := ⟨_, rfl⟩
       replace H : (some y139) = some r := by first | (rw [hy139]; with_reducible exact H) | (have H2_ := (Option.bind_some _ _).symm.trans H; rw [hy139]; with_reducible exact H2_) | (have H2_ := (Option.bind_some _ _).symm.trans H; with_reducible exact H2_) | with_reducible exact H | (rw [hy139]; exact H) | exact H
       have Ny139 := Aside0.mk hy139
       clear hy139
       obtain rfl := Option.some.inj H
       go_wp2_with (first | ((with_reducible refine gate_builtin (b := .append) (xs := #[.tmp 25, .tmp 29]) rfl ?_); at_builtin; refine Kd.R_append Kd.string (w0 := w) w.heap.size rfl (.tmp 25) (.tmp 29) 46 9 (.string ⟨#[]⟩) 16 rfl Tryz.underlying46 info9 rfl (by decide) (by omega) u3 x3_1 (a0.extract (x4_1 : Int).toNat a0.size) [.string (a0.extract (x4_1 : Int).toNat a0.size)] (fun _ => True) (fun _ => False) rfl rfl ?aP (fun _ hk => hk.elim) ?aF ?aO ?aB ?aS ?aL ?_; (case aP => exact rfl); (case aB => exact (by repeat (first | (with_reducible first | exact HB.out | apply below_alloc | apply pw_below_drewN | apply below_drew1) | exact HB.out))); (case aF => exact (fun _ _ => trivial)); (case aO => exact (by (with_reducible repeat (first | apply Kd.R_alloc | apply Kd.R_drewN | apply Kd.R_drew)); exact HO_3.out)); (case aS => exact (below_size (by repeat (first | (with_reducible first | exact HB.out | apply below_alloc | apply pw_below_drewN | apply below_drew1) | exact HB.out)))); (case aL => have := LMc13.out; omega); intro v140 w14 ho hb hg hat; rw [← Ny139.out] at ho; have n0_ := Aside0.mk (hb); have n1_ := Aside0.mk (ho); clear HB; clear HO_3; have HB := n0_; have HO141 := n1_; clear n0_ n1_; clear ho hb hg hat))
       go_ret
       exact ⟨_, by first | rfl | (simp [errW_none, errW_some] <;> rfl) | (simp [*, errW_none, errW_some] <;> rfl), by (with_reducible repeat (first | apply Kd.R_alloc | apply Kd.R_drewN | apply Kd.R_drew)); exact HO141.out, by repeat (first | (with_reducible first | exact HB.out | apply below_alloc | apply pw_below_drewN | apply below_drew1) | exact HB.out)⟩
      ·
       rw [if_neg c13] at H
       exact absurd H (by simp)
     ·
      rw [if_neg c12] at H
      exact absurd H (by simp)
    ·
     rw [if_neg c11] at H
     exact absurd H (by simp)

def spec_isDigit.f (a0 : Int) : Option (Bool) := if 48 ≤ a0 then (some (decide (a0 ≤ 57))) else (some false)

set_option maxHeartbeats 80000000 in
set_option maxRecDepth 100000 in
theorem spec_isDigit.calls (a0 : Int) (r : Bool) (w : World) (h : spec_isDigit.f a0 = some r) :
    Calls Tryz.prog 65 #[.int .u8 a0] w fun e w' => e = .returned (.bool r) ∧ Drawn0 w w' := by
  have H : (if 48 ≤ a0 then (some (decide (a0 ≤ 57))) else (some false)) = some r := h
  clear h
  by_cases c2 : 48 ≤ a0
  · rw [if_pos c2] at H
    have c2b0 : decide (48 ≤ a0) = true := decide_eq_true c2
    clear c2
    obtain rfl := Option.some.inj H
    go_enter Tryz.func65, Tryz.ntmps65
    go_wp2
    go_ret
    exact ⟨by first | rfl | (simp; done) | (simp [*]; done) | (simp [bneNil]; done), by repeat (first | exact Drawn0.refl _ | apply Drawn0.step)⟩
  · rw [if_neg c2] at H
    have c2b0 : decide (48 ≤ a0) = false := decide_eq_false c2
    clear c2
    obtain rfl := Option.some.inj H
    go_enter Tryz.func65, Tryz.ntmps65
    go_wp2
    go_ret
    exact ⟨by first | rfl | (simp; done) | (simp [*]; done) | (simp [bneNil]; done), by repeat (first | exact Drawn0.refl _ | apply Drawn0.step)⟩

def spec_isIdent.f (a0 : Int) : Option (Bool) := (spec_isDigit.f a0).bind fun t142 => (if t142 = true then (some true) else (if 65 ≤ a0 then (if a0 ≤ 90 then (some true) else (if 97 ≤ a0 then (if a0 ≤ 122 then (some true) else (some (a0 == 45))) else (some (a0 == 45)))) else (if 97 ≤ a0 then (if a0 ≤ 122 then (some true) else (some (a0 == 45))) else (some (a0 == 45)))))

set_option maxHeartbeats 80000000 in
set_option maxRecDepth 100000 in
theorem spec_isIdent.calls (a0 : Int) (r : Bool) (w : World) (h : spec_isIdent.f a0 = some r) :
  Calls Tryz.prog 68 #[.int .u8 a0] w fun e w' => e = .returned (.bool r) ∧ Drawn0 w w' := by
 have H : ((spec_isDigit.f a0).bind fun t142 => (if t142 = true then (some true) else (if 65 ≤ a0 then (if a0 ≤ 90 then (some true) else (if 97 ≤ a0 then (if a0 ≤ 122 then (some true) else (some (a0 == 45))) else (some (a0 == 45)))) else (if 97 ≤ a0 then (if a0 ≤ 122 then (some true) else (some (a0 == 45))) else (some (a0 == 45)))))) = some r := h
 clear h
 replace H := Option.bind_eq_some_iff.mp H
 obtain ⟨t142, A20, H⟩ := H
 replace H : (if t142 = true then (some true) else (if 65 ≤ a0 then (if a0 ≤ 90 then (some true) else (if 97 ≤ a0 then (if a0 ≤ 122 then (some true) else (some (a0 == 45))) else (some (a0 == 45)))) else (if 97 ≤ a0 then (if a0 ≤ 122 then (some true) else (some (a0 == 45))) else (some (a0 == 45))))) = some r := H
 have A2 := Aside0.mk A20
 clear A20
 by_cases c3 : t142 = true
 ·
  subst c3
  have H1 : (some true) = some r := by rw [if_pos rfl] at H; exact H
  clear H
  have H := H1
  clear H1
  obtain rfl := Option.some.inj H
  go_enter Tryz.func68, Tryz.ntmps68
  go_wp2_with (first | ((with_reducible refine gate_callee (f := 65) rfl ?_); refine goesL_ (some 4) rfl rfl Tryz.func65 (by kernel_rfl) rfl #[.int .u8 a0] rfl (by (try simp only [List.map_toArray, List.map_cons, List.map_nil]); first | done | rfl | (simp only [List.length_drop, List.length_take]; rfl)) ?_; (with_reducible refine (spec_isDigit.calls a0 true _ A2.out).mono ?_); rintro e w' ⟨rfl, ⟨nd, rfl⟩⟩; refine ⟨_, rfl, ?_⟩))
  go_ret
  exact ⟨by first | rfl | (simp; done) | (simp [*]; done) | (simp [bneNil]; done), by repeat (first | exact Drawn0.refl _ | apply Drawn0.step)⟩
 ·
  replace c3 := Bool.eq_false_iff.mpr c3
  subst c3
  have H1 : (if 65 ≤ a0 then (if a0 ≤ 90 then (some true) else (if 97 ≤ a0 then (if a0 ≤ 122 then (some true) else (some (a0 == 45))) else (some (a0 == 45)))) else (if 97 ≤ a0 then (if a0 ≤ 122 then (some true) else (some (a0 == 45))) else (some (a0 == 45)))) = some r := by rw [if_neg (show ¬ (false = true) by decide)] at H; exact H
  clear H
  have H := H1
  clear H1
  by_cases c4 : 65 ≤ a0
  ·
   rw [if_pos c4] at H
   have c4b0 : decide (65 ≤ a0) = true := decide_eq_true c4
   clear c4
   by_cases c5 : a0 ≤ 90
   ·
    rw [if_pos c5] at H
    have c5b0 : decide (a0 ≤ 90) = true := decide_eq_true c5
    clear c5
    obtain rfl := Option.some.inj H
    go_enter Tryz.func68, Tryz.ntmps68
    go_wp2_with (first | ((with_reducible refine gate_callee (f := 65) rfl ?_); refine goesL_ (some 4) rfl rfl Tryz.func65 (by kernel_rfl) rfl #[.int .u8 a0] rfl (by (try simp only [List.map_toArray, List.map_cons, List.map_nil]); first | done | rfl | (simp only [List.length_drop, List.length_take]; rfl)) ?_; (with_reducible refine (spec_isDigit.calls a0 false _ A2.out).mono ?_); rintro e w' ⟨rfl, ⟨nd, rfl⟩⟩; refine ⟨_, rfl, ?_⟩))
    go_ret
    exact ⟨by first | rfl | (simp; done) | (simp [*]; done) | (simp [bneNil]; done), by repeat (first | exact Drawn0.refl _ | apply Drawn0.step)⟩
   ·
    rw [if_neg c5] at H
    have c5b0 : decide (a0 ≤ 90) = false := decide_eq_false c5
    clear c5
    by_cases c6 : 97 ≤ a0
    ·
     rw [if_pos c6] at H
     have c6b0 : decide (97 ≤ a0) = true := decide_eq_true c6
     clear c6
     by_cases c7 : a0 ≤ 122
     ·
      rw [if_pos c7] at H
      have c7b0 : decide (a0 ≤ 122) = true := decide_eq_true c7
      clear c7
      obtain rfl := Option.some.inj H
      go_enter Tryz.func68, Tryz.ntmps68
      go_wp2_with (first | ((with_reducible refine gate_callee (f := 65) rfl ?_); refine goesL_ (some 4) rfl rfl Tryz.func65 (by kernel_rfl) rfl #[.int .u8 a0] rfl (by (try simp only [List.map_toArray, List.map_cons, List.map_nil]); first | done | rfl | (simp only [List.length_drop, List.length_take]; rfl)) ?_; (with_reducible refine (spec_isDigit.calls a0 false _ A2.out).mono ?_); rintro e w' ⟨rfl, ⟨nd, rfl⟩⟩; refine ⟨_, rfl, ?_⟩))
      go_ret
      exact ⟨by first | rfl | (simp; done) | (simp [*]; done) | (simp [bneNil]; done), by repeat (first | exact Drawn0.refl _ | apply Drawn0.step)⟩
     ·
      rw [if_neg c7] at H
      have c7b0 : decide (a0 ≤ 122) = false := decide_eq_false c7
      clear c7
      obtain rfl := Option.some.inj H
      go_enter Tryz.func68, Tryz.ntmps68
      go_wp2_with (first | ((with_reducible refine gate_callee (f := 65) rfl ?_); refine goesL_ (some 4) rfl rfl Tryz.func65 (by kernel_rfl) rfl #[.int .u8 a0] rfl (by (try simp only [List.map_toArray, List.map_cons, List.map_nil]); first | done | rfl | (simp only [List.length_drop, List.length_take]; rfl)) ?_; (with_reducible refine (spec_isDigit.calls a0 false _ A2.out).mono ?_); rintro e w' ⟨rfl, ⟨nd, rfl⟩⟩; refine ⟨_, rfl, ?_⟩))
      go_ret
      exact ⟨by first | rfl | (simp; done) | (simp [*]; done) | (simp [bneNil]; done), by repeat (first | exact Drawn0.refl _ | apply Drawn0.step)⟩
    ·
     rw [if_neg c6] at H
     have c6b0 : decide (97 ≤ a0) = false := decide_eq_false c6
     clear c6
     obtain rfl := Option.some.inj H
     go_enter Tryz.func68, Tryz.ntmps68
     go_wp2_with (first | ((with_reducible refine gate_callee (f := 65) rfl ?_); refine goesL_ (some 4) rfl rfl Tryz.func65 (by kernel_rfl) rfl #[.int .u8 a0] rfl (by (try simp only [List.map_toArray, List.map_cons, List.map_nil]); first | done | rfl | (simp only [List.length_drop, List.length_take]; rfl)) ?_; (with_reducible refine (spec_isDigit.calls a0 false _ A2.out).mono ?_); rintro e w' ⟨rfl, ⟨nd, rfl⟩⟩; refine ⟨_, rfl, ?_⟩))
     go_ret
     exact ⟨by first | rfl | (simp; done) | (simp [*]; done) | (simp [bneNil]; done), by repeat (first | exact Drawn0.refl _ | apply Drawn0.step)⟩
  ·
   rw [if_neg c4] at H
   have c4b0 : decide (65 ≤ a0) = false := decide_eq_false c4
   clear c4
   by_cases c8 : 97 ≤ a0
   ·
    rw [if_pos c8] at H
    have c8b0 : decide (97 ≤ a0) = true := decide_eq_true c8
    clear c8
    by_cases c9 : a0 ≤ 122
    ·
     rw [if_pos c9] at H
     have c9b0 : decide (a0 ≤ 122) = true := decide_eq_true c9
     clear c9
     obtain rfl := Option.some.inj H
     go_enter Tryz.func68, Tryz.ntmps68
     go_wp2_with (first | ((with_reducible refine gate_callee (f := 65) rfl ?_); refine goesL_ (some 4) rfl rfl Tryz.func65 (by kernel_rfl) rfl #[.int .u8 a0] rfl (by (try simp only [List.map_toArray, List.map_cons, List.map_nil]); first | done | rfl | (simp only [List.length_drop, List.length_take]; rfl)) ?_; (with_reducible refine (spec_isDigit.calls a0 false _ A2.out).mono ?_); rintro e w' ⟨rfl, ⟨nd, rfl⟩⟩; refine ⟨_, rfl, ?_⟩))
     go_ret
     exact ⟨by first | rfl | (simp; done) | (simp [*]; done) | (simp [bneNil]; done), by repeat (first | exact Drawn0.refl _ | apply Drawn0.step)⟩
    ·
     rw [if_neg c9] at H
     have c9b0 : decide (a0 ≤ 122) = false := decide_eq_false c9
     clear c9
     obtain rfl := Option.some.inj H
     go_enter Tryz.func68, Tryz.ntmps68
     go_wp2_with (first | ((with_reducible refine gate_callee (f := 65) rfl ?_); refine goesL_ (some 4) rfl rfl Tryz.func65 (by kernel_rfl) rfl #[.int .u8 a0] rfl (by (try simp only [List.map_toArray, List.map_cons, List.map_nil]); first | done | rfl | (simp only [List.length_drop, List.length_take]; rfl)) ?_; (with_reducible refine (spec_isDigit.calls a0 false _ A2.out).mono ?_); rintro e w' ⟨rfl, ⟨nd, rfl⟩⟩; refine ⟨_, rfl, ?_⟩))
     go_ret
     exact ⟨by first | rfl | (simp; done) | (simp [*]; done) | (simp [bneNil]; done), by repeat (first | exact Drawn0.refl _ | apply Drawn0.step)⟩
   ·
    rw [if_neg c8] at H
    have c8b0 : decide (97 ≤ a0) = false := decide_eq_false c8
    clear c8
    obtain rfl := Option.some.inj H
    go_enter Tryz.func68, Tryz.ntmps68
    go_wp2_with (first | ((with_reducible refine gate_callee (f := 65) rfl ?_); refine goesL_ (some 4) rfl rfl Tryz.func65 (by kernel_rfl) rfl #[.int .u8 a0] rfl (by (try simp only [List.map_toArray, List.map_cons, List.map_nil]); first | done | rfl | (simp only [List.length_drop, List.length_take]; rfl)) ?_; (with_reducible refine (spec_isDigit.calls a0 false _ A2.out).mono ?_); rintro e w' ⟨rfl, ⟨nd, rfl⟩⟩; refine ⟨_, rfl, ?_⟩))
    go_ret
    exact ⟨by first | rfl | (simp; done) | (simp [*]; done) | (simp [bneNil]; done), by repeat (first | exact Drawn0.refl _ | apply Drawn0.step)⟩

def spec_ValidIdent.l0 : Nat → ByteArray → Int → Option (Bool)
  | 0, _, _ => none
  | k + 1, x0, x3 => if x3 < (x0.size : Int) then (if 0 ≤ x3 then ((spec_isIdent.f (bt x0 x3)).bind fun t143 => (if t143 = true then (spec_ValidIdent.l0 k x0 (wrap64 (x3 + 1))) else (some false))) else (none)) else (some (x0.toList != ([] : List UInt8)))

def spec_ValidIdent.f (k : Nat) (a0 : ByteArray) : Option (Bool) := spec_ValidIdent.l0 k a0 0

set_option maxHeartbeats 80000000 in
set_option maxRecDepth 100000 in
theorem spec_ValidIdent.calls (k : Nat) (a0 : ByteArray) (r : Bool) (w : World) (h : spec_ValidIdent.f k a0 = some r) :
    Calls Tryz.prog 40 #[.string a0] w fun e w' => e = .returned (.bool r) ∧ Drawn0 w w' := by
  have H : (spec_ValidIdent.l0 k a0 0) = some r := h
  clear h
  have H' := Aside0.mk H
  clear H
  go_enter Tryz.func40, Tryz.ntmps40
  go_wp2
  go_loopg [3] k (fun kq v3 w' => ∃ (x3_1 : Int), v3 = .int .i64 x3_1 ∧ Aside0 (spec_ValidIdent.l0 kq a0 x3_1 = some r) ∧ Aside0 (kq ≤ k) ∧ Drawn0 w w')
  case atStart => exact ⟨(0), (by first | rfl | (simp; done) | (simp [*]; done)), H', ⟨Nat.le_refl _⟩, by repeat (first | exact Drawn0.refl _ | apply Drawn0.step)⟩
  case round =>
    clear H'
    obtain ⟨x3_1, rfl, HA, HK1, ⟨m1, rfl⟩⟩ := hrel
    cases gk with
    | zero => exact absurd HA.out (by simp [spec_ValidIdent.l0])
    | succ k1 =>
      have H := HA.out
      clear HA
      simp only [spec_ValidIdent.l0] at H
      by_cases c2 : x3_1 < (a0.size : Int)
      · rw [if_pos c2] at H
        have c2b0 : decide (x3_1 < (a0.size : Int)) = true := decide_eq_true c2
        clear c2
        by_cases c3 : 0 ≤ x3_1
        · rw [if_pos c3] at H
          have c3b0 : decide (0 ≤ x3_1) = true := decide_eq_true c3
          clear c3
          replace H := Option.bind_eq_some_iff.mp H
          obtain ⟨t143, A50, H⟩ := H
          replace H : (if t143 = true then (spec_ValidIdent.l0 k1 a0 (wrap64 (x3_1 + 1))) else (some false)) = some r := H
          have A5 := Aside0.mk A50
          clear A50
          by_cases c6 : t143 = true
          · subst c6
            have H1 : (spec_ValidIdent.l0 k1 a0 (wrap64 (x3_1 + 1))) = some r := by rw [if_pos rfl] at H; exact H
            clear H
            have H := H1
            clear H1
            have H' := Aside0.mk H
            clear H
            have p4 : 0 ≤ (x3_1 : Int) := of_decide_eq_true (by first | (with_reducible assumption) | assumption)
            have q4 : x3_1 < (a0.size : Int) := of_decide_eq_true (by first | (with_reducible assumption) | assumption)
            have hx4 := bt_at a0 x3_1
            replace p4 := eq_true p4
            replace q4 := eq_true q4
            go_wp2_with (first | ((with_reducible refine gate_callee (f := 68) rfl ?_); refine goesL_ (some 13) rfl rfl Tryz.func68 (by kernel_rfl) rfl #[.int .u8 (bt a0 x3_1)] rfl (by (try simp only [List.map_toArray, List.map_cons, List.map_nil]); first | done | rfl | (simp only [List.length_drop, List.length_take]; rfl)) ?_; (with_reducible refine (spec_isIdent.calls (bt a0 x3_1) true _ A5.out).mono ?_); rintro e w' ⟨rfl, ⟨nd, rfl⟩⟩; refine ⟨_, rfl, ?_⟩))
            go_roundg k1
            case measure => have := HK1.out; omega
            case rel => exact ⟨(wrap64 (x3_1 + 1)), (by first | rfl | (simp; done) | (simp [*]; done)), H', ⟨by have := HK1.out; omega⟩, by repeat (first | exact Drawn0.refl _ | apply Drawn0.step)⟩
          · replace c6 := Bool.eq_false_iff.mpr c6
            subst c6
            have H1 : (some false) = some r := by rw [if_neg (show ¬ (false = true) by decide)] at H; exact H
            clear H
            have H := H1
            clear H1
            obtain rfl := Option.some.inj H
            have p4 : 0 ≤ (x3_1 : Int) := of_decide_eq_true (by first | (with_reducible assumption) | assumption)
            have q4 : x3_1 < (a0.size : Int) := of_decide_eq_true (by first | (with_reducible assumption) | assumption)
            have hx4 := bt_at a0 x3_1
            replace p4 := eq_true p4
            replace q4 := eq_true q4
            go_wp2_with (first | ((with_reducible refine gate_callee (f := 68) rfl ?_); refine goesL_ (some 13) rfl rfl Tryz.func68 (by kernel_rfl) rfl #[.int .u8 (bt a0 x3_1)] rfl (by (try simp only [List.map_toArray, List.map_cons, List.map_nil]); first | done | rfl | (simp only [List.length_drop, List.length_take]; rfl)) ?_; (with_reducible refine (spec_isIdent.calls (bt a0 x3_1) false _ A5.out).mono ?_); rintro e w' ⟨rfl, ⟨nd, rfl⟩⟩; refine ⟨_, rfl, ?_⟩))
            go_ret
            exact ⟨by first | rfl | (simp; done) | (simp [*]; done) | (simp [bneNil]; done), by repeat (first | exact Drawn0.refl _ | apply Drawn0.step)⟩
        · rw [if_neg c3] at H
          exact absurd H (by simp)
      · rw [if_neg c2] at H
        have c2b0 : decide (x3_1 < (a0.size : Int)) = false := decide_eq_false c2
        clear c2
        obtain rfl := Option.some.inj H
        go_wp2
        go_ret
        exact ⟨by first | rfl | (simp; done) | (simp [*]; done) | (simp [bneNil]; done), by repeat (first | exact Drawn0.refl _ | apply Drawn0.step)⟩

def spec_Digits.l0 : Nat → ByteArray → Int → Option (Bool)
  | 0, _, _ => none
  | k + 1, x0, x3 => if x3 < (x0.size : Int) then (if 0 ≤ x3 then ((spec_isDigit.f (bt x0 x3)).bind fun t144 => (if t144 = true then (spec_Digits.l0 k x0 (wrap64 (x3 + 1))) else (some false))) else (none)) else (some (x0.toList != ([] : List UInt8)))

def spec_Digits.f (k : Nat) (a0 : ByteArray) : Option (Bool) := spec_Digits.l0 k a0 0

set_option maxHeartbeats 80000000 in
set_option maxRecDepth 100000 in
theorem spec_Digits.calls (k : Nat) (a0 : ByteArray) (r : Bool) (w : World) (h : spec_Digits.f k a0 = some r) :
    Calls Tryz.prog 41 #[.string a0] w fun e w' => e = .returned (.bool r) ∧ Drawn0 w w' := by
  have H : (spec_Digits.l0 k a0 0) = some r := h
  clear h
  have H' := Aside0.mk H
  clear H
  go_enter Tryz.func41, Tryz.ntmps41
  go_wp2
  go_loopg [3] k (fun kq v3 w' => ∃ (x3_1 : Int), v3 = .int .i64 x3_1 ∧ Aside0 (spec_Digits.l0 kq a0 x3_1 = some r) ∧ Aside0 (kq ≤ k) ∧ Drawn0 w w')
  case atStart => exact ⟨(0), (by first | rfl | (simp; done) | (simp [*]; done)), H', ⟨Nat.le_refl _⟩, by repeat (first | exact Drawn0.refl _ | apply Drawn0.step)⟩
  case round =>
    clear H'
    obtain ⟨x3_1, rfl, HA, HK1, ⟨m1, rfl⟩⟩ := hrel
    cases gk with
    | zero => exact absurd HA.out (by simp [spec_Digits.l0])
    | succ k1 =>
      have H := HA.out
      clear HA
      simp only [spec_Digits.l0] at H
      by_cases c2 : x3_1 < (a0.size : Int)
      · rw [if_pos c2] at H
        have c2b0 : decide (x3_1 < (a0.size : Int)) = true := decide_eq_true c2
        clear c2
        by_cases c3 : 0 ≤ x3_1
        · rw [if_pos c3] at H
          have c3b0 : decide (0 ≤ x3_1) = true := decide_eq_true c3
          clear c3
          replace H := Option.bind_eq_some_iff.mp H
          obtain ⟨t144, A50, H⟩ := H
          replace H : (if t144 = true then (spec_Digits.l0 k1 a0 (wrap64 (x3_1 + 1))) else (some false)) = some r := H
          have A5 := Aside0.mk A50
          clear A50
          by_cases c6 : t144 = true
          · subst c6
            have H1 : (spec_Digits.l0 k1 a0 (wrap64 (x3_1 + 1))) = some r := by rw [if_pos rfl] at H; exact H
            clear H
            have H := H1
            clear H1
            have H' := Aside0.mk H
            clear H
            have p4 : 0 ≤ (x3_1 : Int) := of_decide_eq_true (by first | (with_reducible assumption) | assumption)
            have q4 : x3_1 < (a0.size : Int) := of_decide_eq_true (by first | (with_reducible assumption) | assumption)
            have hx4 := bt_at a0 x3_1
            replace p4 := eq_true p4
            replace q4 := eq_true q4
            go_wp2_with (first | ((with_reducible refine gate_callee (f := 65) rfl ?_); refine goesL_ (some 13) rfl rfl Tryz.func65 (by kernel_rfl) rfl #[.int .u8 (bt a0 x3_1)] rfl (by (try simp only [List.map_toArray, List.map_cons, List.map_nil]); first | done | rfl | (simp only [List.length_drop, List.length_take]; rfl)) ?_; (with_reducible refine (spec_isDigit.calls (bt a0 x3_1) true _ A5.out).mono ?_); rintro e w' ⟨rfl, ⟨nd, rfl⟩⟩; refine ⟨_, rfl, ?_⟩))
            go_roundg k1
            case measure => have := HK1.out; omega
            case rel => exact ⟨(wrap64 (x3_1 + 1)), (by first | rfl | (simp; done) | (simp [*]; done)), H', ⟨by have := HK1.out; omega⟩, by repeat (first | exact Drawn0.refl _ | apply Drawn0.step)⟩
          · replace c6 := Bool.eq_false_iff.mpr c6
            subst c6
            have H1 : (some false) = some r := by rw [if_neg (show ¬ (false = true) by decide)] at H; exact H
            clear H
            have H := H1
            clear H1
            obtain rfl := Option.some.inj H
            have p4 : 0 ≤ (x3_1 : Int) := of_decide_eq_true (by first | (with_reducible assumption) | assumption)
            have q4 : x3_1 < (a0.size : Int) := of_decide_eq_true (by first | (with_reducible assumption) | assumption)
            have hx4 := bt_at a0 x3_1
            replace p4 := eq_true p4
            replace q4 := eq_true q4
            go_wp2_with (first | ((with_reducible refine gate_callee (f := 65) rfl ?_); refine goesL_ (some 13) rfl rfl Tryz.func65 (by kernel_rfl) rfl #[.int .u8 (bt a0 x3_1)] rfl (by (try simp only [List.map_toArray, List.map_cons, List.map_nil]); first | done | rfl | (simp only [List.length_drop, List.length_take]; rfl)) ?_; (with_reducible refine (spec_isDigit.calls (bt a0 x3_1) false _ A5.out).mono ?_); rintro e w' ⟨rfl, ⟨nd, rfl⟩⟩; refine ⟨_, rfl, ?_⟩))
            go_ret
            exact ⟨by first | rfl | (simp; done) | (simp [*]; done) | (simp [bneNil]; done), by repeat (first | exact Drawn0.refl _ | apply Drawn0.step)⟩
        · rw [if_neg c3] at H
          exact absurd H (by simp)
      · rw [if_neg c2] at H
        have c2b0 : decide (x3_1 < (a0.size : Int)) = false := decide_eq_false c2
        clear c2
        obtain rfl := Option.some.inj H
        go_wp2
        go_ret
        exact ⟨by first | rfl | (simp; done) | (simp [*]; done) | (simp [bneNil]; done), by repeat (first | exact Drawn0.refl _ | apply Drawn0.step)⟩

def spec_ValidPre.l0 : Nat → List ByteArray → Int → Int → Option (Bool)
  | 0, _, _, _ => none
  | k + 1, x6, x7, x8 => if x8 < x7 then (if 0 ≤ x8 then (if x8 < (x6.length : Int) then ((spec_ValidIdent.f k (rdOf ByteArray.empty x6 x8)).bind fun t149 => (if t149 = true then ((spec_Digits.f k (rdOf ByteArray.empty x6 x8)).bind fun t150 => (if t150 = true then (if ((rdOf ByteArray.empty x6 x8).size : Int) > 1 then (if 0 < ((rdOf ByteArray.empty x6 x8).size : Int) then (if (bt (rdOf ByteArray.empty x6 x8) 0) = 48 then (some false) else (spec_ValidPre.l0 k x6 x7 (wrap64 (x8 + 1)))) else (none)) else (spec_ValidPre.l0 k x6 x7 (wrap64 (x8 + 1)))) else (spec_ValidPre.l0 k x6 x7 (wrap64 (x8 + 1))))) else (some false))) else (none)) else (none)) else (some true)

def spec_ValidPre.f (k : Nat) (a0 : ByteArray) : Option (Bool) := (spec_Identifiers.f k a0).bind fun t145 => (spec_ValidPre.l0 k t145 (t145.length : Int) 0)

set_option maxHeartbeats 80000000 in
set_option maxRecDepth 100000 in
theorem spec_ValidPre.calls (k : Nat) (a0 : ByteArray) (r : Bool) (w : World) (h : spec_ValidPre.f k a0 = some r) :
  Calls Tryz.prog 16 #[.string a0] w fun e w' => e = .returned (.bool r) ∧ Below w.heap.size w w' := by
 have HB := Aside0.mk (Below.refl w.heap.size w)
 have H : ((spec_Identifiers.f k a0).bind fun t145 => (spec_ValidPre.l0 k t145 (t145.length : Int) 0)) = some r := h
 clear h
 replace H := Option.bind_eq_some_iff.mp H
 obtain ⟨t145, A20, H⟩ := H
 replace H : (spec_ValidPre.l0 k t145 (t145.length : Int) 0) = some r := H
 have A2 := Aside0.mk A20
 clear A20
 have H' := Aside0.mk H
 clear H
 go_enter Tryz.func16, Tryz.ntmps16
 go_wp2_with (first | ((with_reducible refine gate_callee (f := 34) rfl ?_); refine goesL_ (some 6) rfl rfl Tryz.func34 (by kernel_rfl) rfl #[.string a0] rfl (by (try simp only [List.map_toArray, List.map_cons, List.map_nil]); first | done | rfl | (simp only [List.length_drop, List.length_take]; rfl)) ?_; (with_reducible refine (spec_Identifiers.calls k a0 t145 _ A2.out).mono ?_); rintro e w3 ⟨v146, rfl, ho0, hb⟩; refine ⟨_, rfl, ?_⟩; have n0_ := Aside0.mk (Kd.R_lower ho0 (below_size (by repeat (first | (with_reducible first | exact HB.out | apply below_alloc | apply pw_below_drewN | apply below_drew1) | exact HB.out)))); have n1_ := Aside0.mk (below_step (by repeat (first | (with_reducible first | exact HB.out | apply below_alloc | apply pw_below_drewN | apply below_drew1) | exact HB.out)) hb); clear HB; have HO147 := n0_; have HB := n1_; clear n0_ n1_; (try clear hb); (try clear hb2); (try clear hk); (try clear hi); (try clear ho0); obtain ⟨Ao4, co4, eo4⟩ := Kd.R_slice HO147.out; subst eo4))
 go_loopg [8] k (fun kq v8 w' => ∃ (x8_1 : Int), v8 = .int .i64 x8_1 ∧ Aside0 (spec_ValidPre.l0 kq t145 (t145.length : Int) x8_1 = some r) ∧ Aside0 (kq ≤ k) ∧ Aside0 (Kd.R Kd.string 9 w' w.heap.size (fun _ => True) (.slice Ao4 t145.length co4) t145) ∧ Aside0 (Below w.heap.size w w'))
 case atStart => exact ⟨(0), (by first | rfl | (simp; done) | (simp [*]; done)), H', ⟨Nat.le_refl _⟩, ⟨by (with_reducible repeat (first | apply Kd.R_alloc | apply Kd.R_drewN | apply Kd.R_drew)); exact HO147.out⟩, ⟨by repeat (first | (with_reducible first | exact HB.out | apply below_alloc | apply pw_below_drewN | apply below_drew1) | exact HB.out)⟩⟩
 case round =>
  clear H'
  try clear c1
  try clear p2
  try clear c3
  obtain ⟨x8_1, rfl, HA, HK1, HO_6, HB⟩ := hrel
  cases gk with
  | zero => exact absurd HA.out (by simp [spec_ValidPre.l0])
  | succ k1 =>
   have H := HA.out
   clear HA
   simp only [spec_ValidPre.l0] at H
   by_cases c5 : x8_1 < (t145.length : Int)
   ·
    rw [if_pos c5] at H
    have c5b0 : decide (x8_1 < (t145.length : Int)) = true := decide_eq_true c5
    clear c5
    by_cases c6 : 0 ≤ x8_1
    ·
     rw [if_pos c6] at H
     have c6b0 : decide (0 ≤ x8_1) = true := decide_eq_true c6
     clear c6
     by_cases c7 : x8_1 < (t145.length : Int)
     ·
      rw [if_pos c7] at H
      have c7b0 : decide (x8_1 < (t145.length : Int)) = true := decide_eq_true c7
      clear c7
      replace H := Option.bind_eq_some_iff.mp H
      obtain ⟨t149, A80, H⟩ := H
      replace H : (if t149 = true then ((spec_Digits.f k1 (rdOf ByteArray.empty t145 x8_1)).bind fun t150 => (if t150 = true then (if ((rdOf ByteArray.empty t145 x8_1).size : Int) > 1 then (if 0 < ((rdOf ByteArray.empty t145 x8_1).size : Int) then (if (bt (rdOf ByteArray.empty t145 x8_1) 0) = 48 then (some false) else (spec_ValidPre.l0 k1 t145 (t145.length : Int) (wrap64 (x8_1 + 1)))) else (none)) else (spec_ValidPre.l0 k1 t145 (t145.length : Int) (wrap64 (x8_1 + 1)))) else (spec_ValidPre.l0 k1 t145 (t145.length : Int) (wrap64 (x8_1 + 1))))) else (some false)) = some r := H
      have A8 := Aside0.mk A80
      clear A80
      by_cases c9 : t149 = true
      ·
       subst c9
       have H1 : ((spec_Digits.f k1 (rdOf ByteArray.empty t145 x8_1)).bind fun t150 => (if t150 = true then (if ((rdOf ByteArray.empty t145 x8_1).size : Int) > 1 then (if 0 < ((rdOf ByteArray.empty t145 x8_1).size : Int) then (if (bt (rdOf ByteArray.empty t145 x8_1) 0) = 48 then (some false) else (spec_ValidPre.l0 k1 t145 (t145.length : Int) (wrap64 (x8_1 + 1)))) else (none)) else (spec_ValidPre.l0 k1 t145 (t145.length : Int) (wrap64 (x8_1 + 1)))) else (spec_ValidPre.l0 k1 t145 (t145.length : Int) (wrap64 (x8_1 + 1))))) = some r := by rw [if_pos rfl] at H; exact H
       clear H
       have H := H1
       clear H1
       replace H := Option.bind_eq_some_iff.mp H
       obtain ⟨t150, A100, H⟩ := H
       replace H : (if t150 = true then (if ((rdOf ByteArray.empty t145 x8_1).size : Int) > 1 then (if 0 < ((rdOf ByteArray.empty t145 x8_1).size : Int) then (if (bt (rdOf ByteArray.empty t145 x8_1) 0) = 48 then (some false) else (spec_ValidPre.l0 k1 t145 (t145.length : Int) (wrap64 (x8_1 + 1)))) else (none)) else (spec_ValidPre.l0 k1 t145 (t145.length : Int) (wrap64 (x8_1 + 1)))) else (spec_ValidPre.l0 k1 t145 (t145.length : Int) (wrap64 (x8_1 + 1)))) = some r := H
       have A10 := Aside0.mk A100
       clear A100
       by_cases c11 : t150 = true
       ·
        subst c11
        have H1 : (if ((rdOf ByteArray.empty t145 x8_1).size : Int) > 1 then (if 0 < ((rdOf ByteArray.empty t145 x8_1).size : Int) then (if (bt (rdOf ByteArray.empty t145 x8_1) 0) = 48 then (some false) else (spec_ValidPre.l0 k1 t145 (t145.length : Int) (wrap64 (x8_1 + 1)))) else (none)) else (spec_ValidPre.l0 k1 t145 (t145.length : Int) (wrap64 (x8_1 + 1)))) = some r := by rw [if_pos rfl] at H; exact H
        clear H
        have H := H1
        clear H1
        by_cases c12 : ((rdOf ByteArray.empty t145 x8_1).size : Int) > 1
        ·
         rw [if_pos c12] at H
         have c12b0 : decide (1 < ((rdOf ByteArray.empty t145 x8_1).size : Int)) = true := decide_eq_true c12
         have c12b1 : decide (1 < (rdOf ByteArray.empty t145 x8_1).size) = true := decide_eq_true (by omega)
         clear c12
         by_cases c13 : 0 < ((rdOf ByteArray.empty t145 x8_1).size : Int)
         ·
          rw [if_pos c13] at H
          have c13b0 : decide (0 < ((rdOf ByteArray.empty t145 x8_1).size : Int)) = true := decide_eq_true c13
          have c13b1 : decide (0 < (rdOf ByteArray.empty t145 x8_1).size) = true := decide_eq_true (by omega)
          clear c13
          by_cases c15 : (bt (rdOf ByteArray.empty t145 x8_1) 0) = 48
          ·
           rw [if_pos c15] at H
           have c15b0 : ((bt (rdOf ByteArray.empty t145 x8_1) 0) == 48) = true := beq_iff_eq.mpr c15
           have c15b1 : ((bt (rdOf ByteArray.empty t145 x8_1) 0) != 48) = false := bne_eq_false_iff_eq.mpr c15
           clear c15
           obtain rfl := Option.some.inj H
           have p148 : 0 ≤ (x8_1 : Int) := of_decide_eq_true (by first | (with_reducible assumption) | assumption)
           have q148 : x8_1 < (t145.length : Int) := of_decide_eq_true (by first | (with_reducible assumption) | assumption)
           obtain ⟨ad148, e148, hx148_0⟩ := Kd.at_string (Kd.R_reads' HO_6.out).2.2 x8_1 p148 q148
           cases e148
           replace p148 := eq_true p148
           replace q148 := eq_true q148
           go_wp2_with (first | ((with_reducible refine gate_callee (f := 40) rfl ?_); refine goesL_ (some 13) rfl rfl Tryz.func40 (by kernel_rfl) rfl #[.string (rdOf ByteArray.empty t145 x8_1)] rfl (by (try simp only [List.map_toArray, List.map_cons, List.map_nil]); first | done | rfl | (simp only [List.length_drop, List.length_take]; rfl)) ?_; (with_reducible refine (spec_ValidIdent.calls k1 (rdOf ByteArray.empty t145 x8_1) true _ A8.out).mono ?_); rintro e w' ⟨rfl, ⟨nd, rfl⟩⟩; refine ⟨_, rfl, ?_⟩) | (go_at_call 41; (with_reducible refine (spec_Digits.calls k1 (rdOf ByteArray.empty t145 x8_1) true _ A10.out).mono ?_); rintro e w' ⟨rfl, ⟨nd, rfl⟩⟩; have p14 : 0 ≤ (0 : Int) := (by omega); have q14 : 0 < (rdOf ByteArray.empty t145 x8_1).size := (by have : (0 : Int) < ((rdOf ByteArray.empty t145 x8_1).size : Int) := of_decide_eq_true (by first | (with_reducible assumption) | assumption); omega); have hx14 : ∀ h : 0 < (rdOf ByteArray.empty t145 x8_1).size, (((rdOf ByteArray.empty t145 x8_1)[0]'h).toNat : Int) = bt (rdOf ByteArray.empty t145 x8_1) 0 := bt_at (rdOf ByteArray.empty t145 x8_1) 0; clear p14; have qi14 : (0 < ((rdOf ByteArray.empty t145 x8_1).size : Int)) = True := eq_true (of_decide_eq_true (by first | (with_reducible assumption) | assumption)); replace q14 := eq_true q14))
           go_ret
           exact ⟨by first | rfl | (simp [errW_none, errW_some] <;> rfl) | (simp [*, errW_none, errW_some] <;> rfl) | (simp [bneNil]; done), by repeat (first | (with_reducible first | exact HB.out | apply below_alloc | apply pw_below_drewN | apply below_drew1) | exact HB.out)⟩
          ·
           rw [if_neg c15] at H
           have c15b0 : ((bt (rdOf ByteArray.empty t145 x8_1) 0) == 48) = false := beq_eq_false_iff_ne.mpr c15
           have c15b1 : ((bt (rdOf ByteArray.empty t145 x8_1) 0) != 48) = true := bne_iff_ne.mpr c15
           have H' := Aside0.mk H
           clear H
           have p148 : 0 ≤ (x8_1 : Int) := of_decide_eq_true (by first | (with_reducible assumption) | assumption)
           have q148 : x8_1 < (t145.length : Int) := of_decide_eq_true (by first | (with_reducible assumption) | assumption)
           obtain ⟨ad148, e148, hx148_0⟩ := Kd.at_string (Kd.R_reads' HO_6.out).2.2 x8_1 p148 q148
           cases e148
           replace p148 := eq_true p148
           replace q148 := eq_true q148
           go_wp2_with (first | ((with_reducible refine gate_callee (f := 40) rfl ?_); refine goesL_ (some 13) rfl rfl Tryz.func40 (by kernel_rfl) rfl #[.string (rdOf ByteArray.empty t145 x8_1)] rfl (by (try simp only [List.map_toArray, List.map_cons, List.map_nil]); first | done | rfl | (simp only [List.length_drop, List.length_take]; rfl)) ?_; (with_reducible refine (spec_ValidIdent.calls k1 (rdOf ByteArray.empty t145 x8_1) true _ A8.out).mono ?_); rintro e w' ⟨rfl, ⟨nd, rfl⟩⟩; refine ⟨_, rfl, ?_⟩) | (go_at_call 41; (with_reducible refine (spec_Digits.calls k1 (rdOf ByteArray.empty t145 x8_1) true _ A10.out).mono ?_); rintro e w' ⟨rfl, ⟨nd, rfl⟩⟩; have p14 : 0 ≤ (0 : Int) := (by omega); have q14 : 0 < (rdOf ByteArray.empty t145 x8_1).size := (by have : (0 : Int) < ((rdOf ByteArray.empty t145 x8_1).size : Int) := of_decide_eq_true (by first | (with_reducible assumption) | assumption); omega); have hx14 : ∀ h : 0 < (rdOf ByteArray.empty t145 x8_1).size, (((rdOf ByteArray.empty t145 x8_1)[0]'h).toNat : Int) = bt (rdOf ByteArray.empty t145 x8_1) 0 := bt_at (rdOf ByteArray.empty t145 x8_1) 0; clear p14; have qi14 : (0 < ((rdOf ByteArray.empty t145 x8_1).size : Int)) = True := eq_true (of_decide_eq_true (by first | (with_reducible assumption) | assumption)); replace q14 := eq_true q14))
           go_roundg k1
           case measure => have := HK1.out; omega
           case rel => exact ⟨(wrap64 (x8_1 + 1)), (by first | rfl | (simp; done) | (simp [*]; done)), H', ⟨by have := HK1.out; omega⟩, ⟨by (with_reducible repeat (first | apply Kd.R_alloc | apply Kd.R_drewN | apply Kd.R_drew)); exact HO_6.out⟩, ⟨by repeat (first | (with_reducible first | exact HB.out | apply below_alloc | apply pw_below_drewN | apply below_drew1) | exact HB.out)⟩⟩
         ·
          rw [if_neg c13] at H
          exact absurd H (by simp)
        ·
         rw [if_neg c12] at H
         have c12b0 : decide (1 < ((rdOf ByteArray.empty t145 x8_1).size : Int)) = false := decide_eq_false c12
         have c12b1 : decide (1 < (rdOf ByteArray.empty t145 x8_1).size) = false := decide_eq_false (by omega)
         clear c12
         have H' := Aside0.mk H
         clear H
         have p148 : 0 ≤ (x8_1 : Int) := of_decide_eq_true (by first | (with_reducible assumption) | assumption)
         have q148 : x8_1 < (t145.length : Int) := of_decide_eq_true (by first | (with_reducible assumption) | assumption)
         obtain ⟨ad148, e148, hx148_0⟩ := Kd.at_string (Kd.R_reads' HO_6.out).2.2 x8_1 p148 q148
         cases e148
         replace p148 := eq_true p148
         replace q148 := eq_true q148
         go_wp2_with (first | ((with_reducible refine gate_callee (f := 40) rfl ?_); refine goesL_ (some 13) rfl rfl Tryz.func40 (by kernel_rfl) rfl #[.string (rdOf ByteArray.empty t145 x8_1)] rfl (by (try simp only [List.map_toArray, List.map_cons, List.map_nil]); first | done | rfl | (simp only [List.length_drop, List.length_take]; rfl)) ?_; (with_reducible refine (spec_ValidIdent.calls k1 (rdOf ByteArray.empty t145 x8_1) true _ A8.out).mono ?_); rintro e w' ⟨rfl, ⟨nd, rfl⟩⟩; refine ⟨_, rfl, ?_⟩) | (go_at_call 41; (with_reducible refine (spec_Digits.calls k1 (rdOf ByteArray.empty t145 x8_1) true _ A10.out).mono ?_); rintro e w' ⟨rfl, ⟨nd, rfl⟩⟩))
         go_roundg k1
         case measure => have := HK1.out; omega
         case rel => exact ⟨(wrap64 (x8_1 + 1)), (by first | rfl | (simp; done) | (simp [*]; done)), H', ⟨by have := HK1.out; omega⟩, ⟨by (with_reducible repeat (first | apply Kd.R_alloc | apply Kd.R_drewN | apply Kd.R_drew)); exact HO_6.out⟩, ⟨by repeat (first | (with_reducible first | exact HB.out | apply below_alloc | apply pw_below_drewN | apply below_drew1) | exact HB.out)⟩⟩
       ·
        replace c11 := Bool.eq_false_iff.mpr c11
        subst c11
        have H1 : (spec_ValidPre.l0 k1 t145 (t145.length : Int) (wrap64 (x8_1 + 1))) = some r := by rw [if_neg (show ¬ (false = true) by decide)] at H; exact H
        clear H
        have H := H1
        clear H1
        have H' := Aside0.mk H
        clear H
        have p148 : 0 ≤ (x8_1 : Int) := of_decide_eq_true (by first | (with_reducible assumption) | assumption)
        have q148 : x8_1 < (t145.length : Int) := of_decide_eq_true (by first | (with_reducible assumption) | assumption)
        obtain ⟨ad148, e148, hx148_0⟩ := Kd.at_string (Kd.R_reads' HO_6.out).2.2 x8_1 p148 q148
        cases e148
        replace p148 := eq_true p148
        replace q148 := eq_true q148
        go_wp2_with (first | ((with_reducible refine gate_callee (f := 40) rfl ?_); refine goesL_ (some 13) rfl rfl Tryz.func40 (by kernel_rfl) rfl #[.string (rdOf ByteArray.empty t145 x8_1)] rfl (by (try simp only [List.map_toArray, List.map_cons, List.map_nil]); first | done | rfl | (simp only [List.length_drop, List.length_take]; rfl)) ?_; (with_reducible refine (spec_ValidIdent.calls k1 (rdOf ByteArray.empty t145 x8_1) true _ A8.out).mono ?_); rintro e w' ⟨rfl, ⟨nd, rfl⟩⟩; refine ⟨_, rfl, ?_⟩) | (go_at_call 41; (with_reducible refine (spec_Digits.calls k1 (rdOf ByteArray.empty t145 x8_1) false _ A10.out).mono ?_); rintro e w' ⟨rfl, ⟨nd, rfl⟩⟩))
        go_roundg k1
        case measure => have := HK1.out; omega
        case rel => exact ⟨(wrap64 (x8_1 + 1)), (by first | rfl | (simp; done) | (simp [*]; done)), H', ⟨by have := HK1.out; omega⟩, ⟨by (with_reducible repeat (first | apply Kd.R_alloc | apply Kd.R_drewN | apply Kd.R_drew)); exact HO_6.out⟩, ⟨by repeat (first | (with_reducible first | exact HB.out | apply below_alloc | apply pw_below_drewN | apply below_drew1) | exact HB.out)⟩⟩
      ·
       replace c9 := Bool.eq_false_iff.mpr c9
       subst c9
       have H1 : (some false) = some r := by rw [if_neg (show ¬ (false = true) by decide)] at H; exact H
       clear H
       have H := H1
       clear H1
       obtain rfl := Option.some.inj H
       have p148 : 0 ≤ (x8_1 : Int) := of_decide_eq_true (by first | (with_reducible assumption) | assumption)
       have q148 : x8_1 < (t145.length : Int) := of_decide_eq_true (by first | (with_reducible assumption) | assumption)
       obtain ⟨ad148, e148, hx148_0⟩ := Kd.at_string (Kd.R_reads' HO_6.out).2.2 x8_1 p148 q148
       cases e148
       replace p148 := eq_true p148
       replace q148 := eq_true q148
       go_wp2_with (first | ((with_reducible refine gate_callee (f := 40) rfl ?_); refine goesL_ (some 13) rfl rfl Tryz.func40 (by kernel_rfl) rfl #[.string (rdOf ByteArray.empty t145 x8_1)] rfl (by (try simp only [List.map_toArray, List.map_cons, List.map_nil]); first | done | rfl | (simp only [List.length_drop, List.length_take]; rfl)) ?_; (with_reducible refine (spec_ValidIdent.calls k1 (rdOf ByteArray.empty t145 x8_1) false _ A8.out).mono ?_); rintro e w' ⟨rfl, ⟨nd, rfl⟩⟩; refine ⟨_, rfl, ?_⟩))
       go_ret
       exact ⟨by first | rfl | (simp [errW_none, errW_some] <;> rfl) | (simp [*, errW_none, errW_some] <;> rfl) | (simp [bneNil]; done), by repeat (first | (with_reducible first | exact HB.out | apply below_alloc | apply pw_below_drewN | apply below_drew1) | exact HB.out)⟩
     ·
      rw [if_neg c7] at H
      exact absurd H (by simp)
    ·
     rw [if_neg c6] at H
     exact absurd H (by simp)
   ·
    rw [if_neg c5] at H
    have c5b0 : decide (x8_1 < (t145.length : Int)) = false := decide_eq_false c5
    clear c5
    obtain rfl := Option.some.inj H
    go_wp2
    go_ret
    exact ⟨by first | rfl | (simp [errW_none, errW_some] <;> rfl) | (simp [*, errW_none, errW_some] <;> rfl) | (simp [bneNil]; done), by repeat (first | (with_reducible first | exact HB.out | apply below_alloc | apply pw_below_drewN | apply below_drew1) | exact HB.out)⟩

def spec_ValidMeta.l0 : Nat → List ByteArray → Int → Int → Option (Bool)
  | 0, _, _, _ => none
  | k + 1, x6, x7, x8 => if x8 < x7 then (if 0 ≤ x8 then (if x8 < (x6.length : Int) then ((spec_ValidIdent.f k (rdOf ByteArray.empty x6 x8)).bind fun t155 => (if t155 = true then (spec_ValidMeta.l0 k x6 x7 (wrap64 (x8 + 1))) else (some false))) else (none)) else (none)) else (some true)

def spec_ValidMeta.f (k : Nat) (a0 : ByteArray) : Option (Bool) := (spec_Identifiers.f k a0).bind fun t151 => (spec_ValidMeta.l0 k t151 (t151.length : Int) 0)

set_option maxHeartbeats 80000000 in
set_option maxRecDepth 100000 in
theorem spec_ValidMeta.calls (k : Nat) (a0 : ByteArray) (r : Bool) (w : World) (h : spec_ValidMeta.f k a0 = some r) :
  Calls Tryz.prog 17 #[.string a0] w fun e w' => e = .returned (.bool r) ∧ Below w.heap.size w w' := by
 have HB := Aside0.mk (Below.refl w.heap.size w)
 have H : ((spec_Identifiers.f k a0).bind fun t151 => (spec_ValidMeta.l0 k t151 (t151.length : Int) 0)) = some r := h
 clear h
 replace H := Option.bind_eq_some_iff.mp H
 obtain ⟨t151, A20, H⟩ := H
 replace H : (spec_ValidMeta.l0 k t151 (t151.length : Int) 0) = some r := H
 have A2 := Aside0.mk A20
 clear A20
 have H' := Aside0.mk H
 clear H
 go_enter Tryz.func17, Tryz.ntmps17
 go_wp2_with (first | ((with_reducible refine gate_callee (f := 34) rfl ?_); refine goesL_ (some 6) rfl rfl Tryz.func34 (by kernel_rfl) rfl #[.string a0] rfl (by (try simp only [List.map_toArray, List.map_cons, List.map_nil]); first | done | rfl | (simp only [List.length_drop, List.length_take]; rfl)) ?_; (with_reducible refine (spec_Identifiers.calls k a0 t151 _ A2.out).mono ?_); rintro e w3 ⟨v152, rfl, ho0, hb⟩; refine ⟨_, rfl, ?_⟩; have n0_ := Aside0.mk (Kd.R_lower ho0 (below_size (by repeat (first | (with_reducible first | exact HB.out | apply below_alloc | apply pw_below_drewN | apply below_drew1) | exact HB.out)))); have n1_ := Aside0.mk (below_step (by repeat (first | (with_reducible first | exact HB.out | apply below_alloc | apply pw_below_drewN | apply below_drew1) | exact HB.out)) hb); clear HB; have HO153 := n0_; have HB := n1_; clear n0_ n1_; (try clear hb); (try clear hb2); (try clear hk); (try clear hi); (try clear ho0); obtain ⟨Ao4, co4, eo4⟩ := Kd.R_slice HO153.out; subst eo4))
 go_loopg [8] k (fun kq v8 w' => ∃ (x8_1 : Int), v8 = .int .i64 x8_1 ∧ Aside0 (spec_ValidMeta.l0 kq t151 (t151.length : Int) x8_1 = some r) ∧ Aside0 (kq ≤ k) ∧ Aside0 (Kd.R Kd.string 9 w' w.heap.size (fun _ => True) (.slice Ao4 t151.length co4) t151) ∧ Aside0 (Below w.heap.size w w'))
 case atStart => exact ⟨(0), (by first | rfl | (simp; done) | (simp [*]; done)), H', ⟨Nat.le_refl _⟩, ⟨by (with_reducible repeat (first | apply Kd.R_alloc | apply Kd.R_drewN | apply Kd.R_drew)); exact HO153.out⟩, ⟨by repeat (first | (with_reducible first | exact HB.out | apply below_alloc | apply pw_below_drewN | apply below_drew1) | exact HB.out)⟩⟩
 case round =>
  clear H'
  try clear c1
  try clear p2
  try clear c3
  obtain ⟨x8_1, rfl, HA, HK1, HO_6, HB⟩ := hrel
  cases gk with
  | zero => exact absurd HA.out (by simp [spec_ValidMeta.l0])
  | succ k1 =>
   have H := HA.out
   clear HA
   simp only [spec_ValidMeta.l0] at H
   by_cases c5 : x8_1 < (t151.length : Int)
   ·
    rw [if_pos c5] at H
    have c5b0 : decide (x8_1 < (t151.length : Int)) = true := decide_eq_true c5
    clear c5
    by_cases c6 : 0 ≤ x8_1
    ·
     rw [if_pos c6] at H
     have c6b0 : decide (0 ≤ x8_1) = true := decide_eq_true c6
     clear c6
     by_cases c7 : x8_1 < (t151.length : Int)
     ·
      rw [if_pos c7] at H
      have c7b0 : decide (x8_1 < (t151.length : Int)) = true := decide_eq_true c7
      clear c7
      replace H := Option.bind_eq_some_iff.mp H
      obtain ⟨t155, A80, H⟩ := H
      replace H : (if t155 = true then (spec_ValidMeta.l0 k1 t151 (t151.length : Int) (wrap64 (x8_1 + 1))) else (some false)) = some r := H
      have A8 := Aside0.mk A80
      clear A80
      by_cases c9 : t155 = true
      ·
       subst c9
       have H1 : (spec_ValidMeta.l0 k1 t151 (t151.length : Int) (wrap64 (x8_1 + 1))) = some r := by rw [if_pos rfl] at H; exact H
       clear H
       have H := H1
       clear H1
       have H' := Aside0.mk H
       clear H
       have p154 : 0 ≤ (x8_1 : Int) := of_decide_eq_true (by first | (with_reducible assumption) | assumption)
       have q154 : x8_1 < (t151.length : Int) := of_decide_eq_true (by first | (with_reducible assumption) | assumption)
       obtain ⟨ad154, e154, hx154_0⟩ := Kd.at_string (Kd.R_reads' HO_6.out).2.2 x8_1 p154 q154
       cases e154
       replace p154 := eq_true p154
       replace q154 := eq_true q154
       go_wp2_with (first | ((with_reducible refine gate_callee (f := 40) rfl ?_); refine goesL_ (some 13) rfl rfl Tryz.func40 (by kernel_rfl) rfl #[.string (rdOf ByteArray.empty t151 x8_1)] rfl (by (try simp only [List.map_toArray, List.map_cons, List.map_nil]); first | done | rfl | (simp only [List.length_drop, List.length_take]; rfl)) ?_; (with_reducible refine (spec_ValidIdent.calls k1 (rdOf ByteArray.empty t151 x8_1) true _ A8.out).mono ?_); rintro e w' ⟨rfl, ⟨nd, rfl⟩⟩; refine ⟨_, rfl, ?_⟩))
       go_roundg k1
       case measure => have := HK1.out; omega
       case rel => exact ⟨(wrap64 (x8_1 + 1)), (by first | rfl | (simp; done) | (simp [*]; done)), H', ⟨by have := HK1.out; omega⟩, ⟨by (with_reducible repeat (first | apply Kd.R_alloc | apply Kd.R_drewN | apply Kd.R_drew)); exact HO_6.out⟩, ⟨by repeat (first | (with_reducible first | exact HB.out | apply below_alloc | apply pw_below_drewN | apply below_drew1) | exact HB.out)⟩⟩
      ·
       replace c9 := Bool.eq_false_iff.mpr c9
       subst c9
       have H1 : (some false) = some r := by rw [if_neg (show ¬ (false = true) by decide)] at H; exact H
       clear H
       have H := H1
       clear H1
       obtain rfl := Option.some.inj H
       have p154 : 0 ≤ (x8_1 : Int) := of_decide_eq_true (by first | (with_reducible assumption) | assumption)
       have q154 : x8_1 < (t151.length : Int) := of_decide_eq_true (by first | (with_reducible assumption) | assumption)
       obtain ⟨ad154, e154, hx154_0⟩ := Kd.at_string (Kd.R_reads' HO_6.out).2.2 x8_1 p154 q154
       cases e154
       replace p154 := eq_true p154
       replace q154 := eq_true q154
       go_wp2_with (first | ((with_reducible refine gate_callee (f := 40) rfl ?_); refine goesL_ (some 13) rfl rfl Tryz.func40 (by kernel_rfl) rfl #[.string (rdOf ByteArray.empty t151 x8_1)] rfl (by (try simp only [List.map_toArray, List.map_cons, List.map_nil]); first | done | rfl | (simp only [List.length_drop, List.length_take]; rfl)) ?_; (with_reducible refine (spec_ValidIdent.calls k1 (rdOf ByteArray.empty t151 x8_1) false _ A8.out).mono ?_); rintro e w' ⟨rfl, ⟨nd, rfl⟩⟩; refine ⟨_, rfl, ?_⟩))
       go_ret
       exact ⟨by first | rfl | (simp [errW_none, errW_some] <;> rfl) | (simp [*, errW_none, errW_some] <;> rfl) | (simp [bneNil]; done), by repeat (first | (with_reducible first | exact HB.out | apply below_alloc | apply pw_below_drewN | apply below_drew1) | exact HB.out)⟩
     ·
      rw [if_neg c7] at H
      exact absurd H (by simp)
    ·
     rw [if_neg c6] at H
     exact absurd H (by simp)
   ·
    rw [if_neg c5] at H
    have c5b0 : decide (x8_1 < (t151.length : Int)) = false := decide_eq_false c5
    clear c5
    obtain rfl := Option.some.inj H
    go_wp2
    go_ret
    exact ⟨by first | rfl | (simp [errW_none, errW_some] <;> rfl) | (simp [*, errW_none, errW_some] <;> rfl) | (simp [bneNil]; done), by repeat (first | (with_reducible first | exact HB.out | apply below_alloc | apply pw_below_drewN | apply below_drew1) | exact HB.out)⟩

def spec_cutAt.l0 : Nat → ByteArray → Int → Int → Option (ByteArray × ByteArray × Bool)
  | 0, _, _, _ => none
  | k + 1, x0, x1, x7 => if x7 < (x0.size : Int) then (if 0 ≤ x7 then (if (bt x0 x7) = x1 then (if x7 ≤ (x0.size : Int) then (if 0 ≤ (wrap64 (x7 + 1)) then (if (wrap64 (x7 + 1)) ≤ (x0.size : Int) then (some (x0.extract 0 (x7 : Int).toNat, x0.extract ((wrap64 (x7 + 1)) : Int).toNat x0.size, true)) else (none)) else (none)) else (none)) else (spec_cutAt.l0 k x0 x1 (wrap64 (x7 + 1)))) else (none)) else (some (x0, (⟨#[]⟩ : ByteArray), false))

def spec_cutAt.f (k : Nat) (a0 : ByteArray) (a1 : Int) : Option (ByteArray × ByteArray × Bool) := spec_cutAt.l0 k a0 a1 0

set_option maxHeartbeats 80000000 in
set_option maxRecDepth 100000 in
theorem spec_cutAt.calls (k : Nat) (a0 : ByteArray) (a1 : Int) (r1 : ByteArray) (r2 : ByteArray) (r3 : Bool) (w : World) (h : spec_cutAt.f k a0 a1 = some (r1, r2, r3)) :
    Calls Tryz.prog 64 #[.string a0, .int .u8 a1] w fun e w' => e = .returned (.tuple #[.string r1, .string r2, .bool r3]) ∧ Drawn0 w w' := by
  have H : (spec_cutAt.l0 k a0 a1 0) = some (r1, r2, r3) := h
  clear h
  have H' := Aside0.mk H
  clear H
  go_enter Tryz.func64, Tryz.ntmps64
  go_wp2
  repeat (go_quiet (fail); try go_wp2)
  go_loopg [7] k (fun kq v7 w' => ∃ (x7_1 : Int), v7 = .int .i64 x7_1 ∧ Aside0 (spec_cutAt.l0 kq a0 a1 x7_1 = some (r1, r2, r3)) ∧ Aside0 (kq ≤ k) ∧ Drawn0 w w')
  case atStart => exact ⟨(0), (by first | rfl | (simp; done) | (simp [*]; done)), H', ⟨Nat.le_refl _⟩, by repeat (first | exact Drawn0.refl _ | apply Drawn0.step)⟩
  case round =>
    clear H'
    try clear p2
    obtain ⟨x7_1, rfl, HA, HK1, ⟨m1, rfl⟩⟩ := hrel
    cases gk with
    | zero => exact absurd HA.out (by simp [spec_cutAt.l0])
    | succ k1 =>
      have H := HA.out
      clear HA
      simp only [spec_cutAt.l0] at H
      by_cases c3 : x7_1 < (a0.size : Int)
      · rw [if_pos c3] at H
        have c3b0 : decide (x7_1 < (a0.size : Int)) = true := decide_eq_true c3
        clear c3
        by_cases c4 : 0 ≤ x7_1
        · rw [if_pos c4] at H
          have c4b0 : decide (0 ≤ x7_1) = true := decide_eq_true c4
          clear c4
          by_cases c6 : (bt a0 x7_1) = a1
          · rw [if_pos c6] at H
            have c6b0 : ((bt a0 x7_1) == a1) = true := beq_iff_eq.mpr c6
            have c6b1 : ((bt a0 x7_1) != a1) = false := bne_eq_false_iff_eq.mpr c6
            clear c6
            have c7b0 := eq_true (of_decide_eq_true (by first | (with_reducible assumption) | assumption) : 0 ≤ x7_1)
            by_cases c8 : x7_1 ≤ (a0.size : Int)
            · rw [if_pos c8] at H
              have c8b0 := eq_true c8
              have c8b1 : decide (x7_1 ≤ (a0.size : Int)) = true := decide_eq_true c8
              clear c8
              obtain ⟨ji9, hji9⟩ : ∃ j_ : Int, (wrap64 (x7_1 + 1)) = j_ := ⟨_, rfl⟩
              replace H : (if 0 ≤ (ji9) then (if (ji9) ≤ (a0.size : Int) then (some (a0.extract 0 (x7_1 : Int).toNat, a0.extract ((ji9) : Int).toNat a0.size, true)) else (none)) else (none)) = some (r1, r2, r3) := by first | (rw [hji9] at H; exact H) | (simp only [hji9] at H ⊢; exact H)
              have hji9w : (IntKind.i64.wrap (x7_1 + 1)) = ji9 := (i64_w _).trans hji9
              by_cases c10 : 0 ≤ (ji9)
              · rw [if_pos c10] at H
                have c10b0 := eq_true c10
                have c10b1 : decide (0 ≤ (ji9)) = true := decide_eq_true c10
                clear c10
                by_cases c11 : (ji9) ≤ (a0.size : Int)
                · rw [if_pos c11] at H
                  have c11b0 := eq_true c11
                  have c11b1 : decide ((ji9) ≤ (a0.size : Int)) = true := decide_eq_true c11
                  clear c11
                  simp only [Option.some.injEq, Prod.mk.injEq] at H
                  obtain ⟨rfl, rfl, rfl⟩ := H
                  have p5 : 0 ≤ (x7_1 : Int) := of_decide_eq_true (by first | (with_reducible assumption) | assumption)
                  have q5 : x7_1 < (a0.size : Int) := of_decide_eq_true (by first | (with_reducible assumption) | assumption)
                  have hx5 := bt_at a0 x7_1
                  replace p5 := eq_true p5
                  replace q5 := eq_true q5
                  go_wp2
                  repeat (go_quiet (fail); try go_wp2)
                  go_ret3
                  exact ⟨by first | rfl | (simp; done) | (simp only [← hji9] <;> (first | rfl | simp)) | (simp [*]; done) | (simp [bneNil]; done), by repeat (first | exact Drawn0.refl _ | apply Drawn0.step)⟩
                · rw [if_neg c11] at H
                  exact absurd H (by simp)
              · rw [if_neg c10] at H
                exact absurd H (by simp)
            · rw [if_neg c8] at H
              exact absurd H (by simp)
          · rw [if_neg c6] at H
            have c6b0 : ((bt a0 x7_1) == a1) = false := beq_eq_false_iff_ne.mpr c6
            have c6b1 : ((bt a0 x7_1) != a1) = true := bne_iff_ne.mpr c6
            have H' := Aside0.mk H
            clear H
            have p5 : 0 ≤ (x7_1 : Int) := of_decide_eq_true (by first | (with_reducible assumption) | assumption)
            have q5 : x7_1 < (a0.size : Int) := of_decide_eq_true (by first | (with_reducible assumption) | assumption)
            have hx5 := bt_at a0 x7_1
            replace p5 := eq_true p5
            replace q5 := eq_true q5
            go_wp2
            repeat (go_quiet (fail); try go_wp2)
            go_roundg k1
            case measure => have := HK1.out; omega
            case rel => exact ⟨(wrap64 (x7_1 + 1)), (by first | rfl | (simp; done) | (simp [*]; done)), H', ⟨by have := HK1.out; omega⟩, by repeat (first | exact Drawn0.refl _ | apply Drawn0.step)⟩
        · rw [if_neg c4] at H
          exact absurd H (by simp)
      · rw [if_neg c3] at H
        have c3b0 : decide (x7_1 < (a0.size : Int)) = false := decide_eq_false c3
        clear c3
        simp only [Option.some.injEq, Prod.mk.injEq] at H
        obtain ⟨rfl, rfl, rfl⟩ := H
        go_wp2
        repeat (go_quiet (fail); try go_wp2)
        go_ret3
        exact ⟨by first | rfl | (simp; done) | (simp [*]; done) | (simp [bneNil]; done), by repeat (first | exact Drawn0.refl _ | apply Drawn0.step)⟩

def spec_tails.f (k : Nat) (a0 : ByteArray) : Option (ByteArray × ByteArray × ByteArray × Bool) := (spec_cutAt.f k a0 43).bind fun bt156 => ((spec_cutAt.f k bt156.1 45).bind fun bt159 => (if bt156.2.2 = true then ((spec_ValidMeta.f k bt156.2.1).bind fun t162 => (if t162 = true then (if bt159.2.2 = true then ((spec_ValidPre.f k bt159.2.1).bind fun t163 => (some (bt159.1, bt159.2.1, bt156.2.1, t163))) else (some (bt159.1, bt159.2.1, bt156.2.1, true))) else (some (bt159.1, bt159.2.1, bt156.2.1, false)))) else (if bt159.2.2 = true then ((spec_ValidPre.f k bt159.2.1).bind fun t164 => (some (bt159.1, bt159.2.1, bt156.2.1, t164))) else (some (bt159.1, bt159.2.1, bt156.2.1, true)))))

set_option maxHeartbeats 80000000 in
set_option maxRecDepth 100000 in
theorem spec_tails.calls (k : Nat) (a0 : ByteArray) (r1 : ByteArray) (r2 : ByteArray) (r3 : ByteArray) (r4 : Bool) (w : World) (h : spec_tails.f k a0 = some (r1, r2, r3, r4)) :
  Calls Tryz.prog 33 #[.string a0] w fun e w' => e = .returned (.tuple #[.string r1, .string r2, .string r3, .bool r4]) ∧ Below w.heap.size w w' := by
 have HB := Aside0.mk (Below.refl w.heap.size w)
 have H : ((spec_cutAt.f k a0 43).bind fun bt156 => ((spec_cutAt.f k bt156.1 45).bind fun bt159 => (if bt156.2.2 = true then ((spec_ValidMeta.f k bt156.2.1).bind fun t162 => (if t162 = true then (if bt159.2.2 = true then ((spec_ValidPre.f k bt159.2.1).bind fun t163 => (some (bt159.1, bt159.2.1, bt156.2.1, t163))) else (some (bt159.1, bt159.2.1, bt156.2.1, true))) else (some (bt159.1, bt159.2.1, bt156.2.1, false)))) else (if bt159.2.2 = true then ((spec_ValidPre.f k bt159.2.1).bind fun t164 => (some (bt159.1, bt159.2.1, bt156.2.1, t164))) else (some (bt159.1, bt159.2.1, bt156.2.1, true)))))) = some (r1, r2, r3, r4) := h
 clear h
 replace H := Option.bind_eq_some_iff.mp H
 obtain ⟨⟨t156, t157, t158⟩, A20, H⟩ := H
 replace H : ((spec_cutAt.f k t156 45).bind fun bt159 => (if t158 = true then ((spec_ValidMeta.f k t157).bind fun t162 => (if t162 = true then (if bt159.2.2 = true then ((spec_ValidPre.f k bt159.2.1).bind fun t163 => (some (bt159.1, bt159.2.1, t157, t163))) else (some (bt159.1, bt159.2.1, t157, true))) else (some (bt159.1, bt159.2.1, t157, false)))) else (if bt159.2.2 = true then ((spec_ValidPre.f k bt159.2.1).bind fun t164 => (some (bt159.1, bt159.2.1, t157, t164))) else (some (bt159.1, bt159.2.1, t157, true))))) = some (r1, r2, r3, r4) := H
 have A2 := Aside0.mk A20
 clear A20
 replace H := Option.bind_eq_some_iff.mp H
 obtain ⟨⟨t159, t160, t161⟩, A30, H⟩ := H
 replace H : (if t158 = true then ((spec_ValidMeta.f k t157).bind fun t162 => (if t162 = true then (if t161 = true then ((spec_ValidPre.f k t160).bind fun t163 => (some (t159, t160, t157, t163))) else (some (t159, t160, t157, true))) else (some (t159, t160, t157, false)))) else (if t161 = true then ((spec_ValidPre.f k t160).bind fun t164 => (some (t159, t160, t157, t164))) else (some (t159, t160, t157, true)))) = some (r1, r2, r3, r4) := H
 have A3 := Aside0.mk A30
 clear A30
 by_cases c4 : t158 = true
 ·
  subst c4
  have H1 : ((spec_ValidMeta.f k t157).bind fun t162 => (if t162 = true then (if t161 = true then ((spec_ValidPre.f k t160).bind fun t163 => (some (t159, t160, t157, t163))) else (some (t159, t160, t157, true))) else (some (t159, t160, t157, false)))) = some (r1, r2, r3, r4) := by rw [if_pos rfl] at H; exact H
  clear H
  have H := H1
  clear H1
  replace H := Option.bind_eq_some_iff.mp H
  obtain ⟨t162, A50, H⟩ := H
  replace H : (if t162 = true then (if t161 = true then ((spec_ValidPre.f k t160).bind fun t163 => (some (t159, t160, t157, t163))) else (some (t159, t160, t157, true))) else (some (t159, t160, t157, false))) = some (r1, r2, r3, r4) := H
  have A5 := Aside0.mk A50
  clear A50
  by_cases c6 : t162 = true
  ·
   subst c6
   have H1 : (if t161 = true then ((spec_ValidPre.f k t160).bind fun t163 => (some (t159, t160, t157, t163))) else (some (t159, t160, t157, true))) = some (r1, r2, r3, r4) := by rw [if_pos rfl] at H; exact H
   clear H
   have H := H1
   clear H1
   by_cases c7 : t161 = true
   ·
    subst c7
    have H1 : ((spec_ValidPre.f k t160).bind fun t163 => (some (t159, t160, t157, t163))) = some (r1, r2, r3, r4) := by rw [if_pos rfl] at H; exact H
    clear H
    have H := H1
    clear H1
    replace H := Option.bind_eq_some_iff.mp H
    obtain ⟨t163, A80, H⟩ := H
    replace H : (some (t159, t160, t157, t163)) = some (r1, r2, r3, r4) := H
    have A8 := Aside0.mk A80
    clear A80
    simp only [Option.some.injEq, Prod.mk.injEq] at H
    obtain ⟨rfl, rfl, rfl, rfl⟩ := H
    go_enter Tryz.func33, Tryz.ntmps33
    go_wp2_with (first | ((with_reducible refine gate_callee (f := 64) rfl ?_); refine goesL_ (some 10) rfl rfl Tryz.func64 (by kernel_rfl) rfl #[.string a0, .int .u8 43] rfl (by (try simp only [List.map_toArray, List.map_cons, List.map_nil]); first | done | rfl | (simp only [List.length_drop, List.length_take]; rfl)) ?_; (with_reducible refine (spec_cutAt.calls k a0 43 t156 t157 true _ A2.out).mono ?_); rintro e w' ⟨rfl, ⟨nd, rfl⟩⟩; refine ⟨_, rfl, ?_⟩) | ((with_reducible refine gate_callee (f := 64) rfl ?_); refine goesL_ (some 16) rfl rfl Tryz.func64 (by kernel_rfl) rfl #[.string t156, .int .u8 45] rfl (by (try simp only [List.map_toArray, List.map_cons, List.map_nil]); first | done | rfl | (simp only [List.length_drop, List.length_take]; rfl)) ?_; (with_reducible refine (spec_cutAt.calls k t156 45 t159 t160 true _ A3.out).mono ?_); rintro e w' ⟨rfl, ⟨nd, rfl⟩⟩; refine ⟨_, rfl, ?_⟩) | (go_at_call 17; (with_reducible refine (spec_ValidMeta.calls k t157 true _ A5.out).mono ?_); rintro e w9 ⟨rfl, hb⟩; have n0_ := Aside0.mk (below_step (by repeat (first | (with_reducible first | exact HB.out | apply below_alloc | apply pw_below_drewN | apply below_drew1) | exact HB.out)) hb); clear HB; have HB := n0_; clear n0_; (try clear hb); (try clear hb2); (try clear hk); (try clear hi)) | (go_at_call 16; (with_reducible refine (spec_ValidPre.calls k t160 t163 _ A8.out).mono ?_); rintro e w10 ⟨rfl, hb⟩; have n0_ := Aside0.mk (below_step (by repeat (first | (with_reducible first | exact HB.out | apply below_alloc | apply pw_below_drewN | apply below_drew1) | exact HB.out)) hb); clear HB; have HB := n0_; clear n0_; (try clear hb); (try clear hb2); (try clear hk); (try clear hi)))
    refine bodyPost_ret (results_list (rs := [.tmp 2, .tmp 3, .tmp 4, .tmp 5]) rfl (by simp) (.tmp (.tmp (.tmp (.tmp .nil))))) rfl ?_
    exact ⟨by first | rfl | (simp [errW_none, errW_some] <;> rfl) | (simp [*, errW_none, errW_some] <;> rfl) | (simp [bneNil]; done), by repeat (first | (with_reducible first | exact HB.out | apply below_alloc | apply pw_below_drewN | apply below_drew1) | exact HB.out)⟩
   ·
    replace c7 := Bool.eq_false_iff.mpr c7
    subst c7
    have H1 : (some (t159, t160, t157, true)) = some (r1, r2, r3, r4) := by rw [if_neg (show ¬ (false = true) by decide)] at H; exact H
    clear H
    have H := H1
    clear H1
    simp only [Option.some.injEq, Prod.mk.injEq] at H
    obtain ⟨rfl, rfl, rfl, rfl⟩ := H
    go_enter Tryz.func33, Tryz.ntmps33
    go_wp2_with (first | ((with_reducible refine gate_callee (f := 64) rfl ?_); refine goesL_ (some 10) rfl rfl Tryz.func64 (by kernel_rfl) rfl #[.string a0, .int .u8 43] rfl (by (try simp only [List.map_toArray, List.map_cons, List.map_nil]); first | done | rfl | (simp only [List.length_drop, List.length_take]; rfl)) ?_; (with_reducible refine (spec_cutAt.calls k a0 43 t156 t157 true _ A2.out).mono ?_); rintro e w' ⟨rfl, ⟨nd, rfl⟩⟩; refine ⟨_, rfl, ?_⟩) | ((with_reducible refine gate_callee (f := 64) rfl ?_); refine goesL_ (some 16) rfl rfl Tryz.func64 (by kernel_rfl) rfl #[.string t156, .int .u8 45] rfl (by (try simp only [List.map_toArray, List.map_cons, List.map_nil]); first | done | rfl | (simp only [List.length_drop, List.length_take]; rfl)) ?_; (with_reducible refine (spec_cutAt.calls k t156 45 t159 t160 false _ A3.out).mono ?_); rintro e w' ⟨rfl, ⟨nd, rfl⟩⟩; refine ⟨_, rfl, ?_⟩) | (go_at_call 17; (with_reducible refine (spec_ValidMeta.calls k t157 true _ A5.out).mono ?_); rintro e w11 ⟨rfl, hb⟩; have n0_ := Aside0.mk (below_step (by repeat (first | (with_reducible first | exact HB.out | apply below_alloc | apply pw_below_drewN | apply below_drew1) | exact HB.out)) hb); clear HB; have HB := n0_; clear n0_; (try clear hb); (try clear hb2); (try clear hk); (try clear hi)))
    refine bodyPost_ret (results_list (rs := [.tmp 2, .tmp 3, .tmp 4, .tmp 5]) rfl (by simp) (.tmp (.tmp (.tmp (.tmp .nil))))) rfl ?_
    exact ⟨by first | rfl | (simp [errW_none, errW_some] <;> rfl) | (simp [*, errW_none, errW_some] <;> rfl) | (simp [bneNil]; done), by repeat (first | (with_reducible first | exact HB.out | apply below_alloc | apply pw_below_drewN | apply below_drew1) | exact HB.out)⟩
  ·
   replace c6 := Bool.eq_false_iff.mpr c6
   subst c6
   have H1 : (some (t159, t160, t157, false)) = some (r1, r2, r3, r4) := by rw [if_neg (show ¬ (false = true) by decide)] at H; exact H
   clear H
   have H := H1
   clear H1
   simp only [Option.some.injEq, Prod.mk.injEq] at H
   obtain ⟨rfl, rfl, rfl, rfl⟩ := H
   go_enter Tryz.func33, Tryz.ntmps33
   go_wp2_with (first | ((with_reducible refine gate_callee (f := 64) rfl ?_); refine goesL_ (some 10) rfl rfl Tryz.func64 (by kernel_rfl) rfl #[.string a0, .int .u8 43] rfl (by (try simp only [List.map_toArray, List.map_cons, List.map_nil]); first | done | rfl | (simp only [List.length_drop, List.length_take]; rfl)) ?_; (with_reducible refine (spec_cutAt.calls k a0 43 t156 t157 true _ A2.out).mono ?_); rintro e w' ⟨rfl, ⟨nd, rfl⟩⟩; refine ⟨_, rfl, ?_⟩) | ((with_reducible refine gate_callee (f := 64) rfl ?_); refine goesL_ (some 16) rfl rfl Tryz.func64 (by kernel_rfl) rfl #[.string t156, .int .u8 45] rfl (by (try simp only [List.map_toArray, List.map_cons, List.map_nil]); first | done | rfl | (simp only [List.length_drop, List.length_take]; rfl)) ?_; (with_reducible refine (spec_cutAt.calls k t156 45 t159 t160 t161 _ A3.out).mono ?_); rintro e w' ⟨rfl, ⟨nd, rfl⟩⟩; refine ⟨_, rfl, ?_⟩) | (go_at_call 17; (with_reducible refine (spec_ValidMeta.calls k t157 false _ A5.out).mono ?_); rintro e w12 ⟨rfl, hb⟩; have n0_ := Aside0.mk (below_step (by repeat (first | (with_reducible first | exact HB.out | apply below_alloc | apply pw_below_drewN | apply below_drew1) | exact HB.out)) hb); clear HB; have HB := n0_; clear n0_; (try clear hb); (try clear hb2); (try clear hk); (try clear hi)))
   refine bodyPost_ret (results_list (rs := [.tmp 2, .tmp 3, .tmp 4, .tmp 5]) rfl (by simp) (.tmp (.tmp (.tmp (.tmp .nil))))) rfl ?_
   exact ⟨by first | rfl | (simp [errW_none, errW_some] <;> rfl) | (simp [*, errW_none, errW_some] <;> rfl) | (simp [bneNil]; done), by repeat (first | (with_reducible first | exact HB.out | apply below_alloc | apply pw_below_drewN | apply below_drew1) | exact HB.out)⟩
 ·
  replace c4 := Bool.eq_false_iff.mpr c4
  subst c4
  have H1 : (if t161 = true then ((spec_ValidPre.f k t160).bind fun t164 => (some (t159, t160, t157, t164))) else (some (t159, t160, t157, true))) = some (r1, r2, r3, r4) := by rw [if_neg (show ¬ (false = true) by decide)] at H; exact H
  clear H
  have H := H1
  clear H1
  by_cases c13 : t161 = true
  ·
   subst c13
   have H1 : ((spec_ValidPre.f k t160).bind fun t164 => (some (t159, t160, t157, t164))) = some (r1, r2, r3, r4) := by rw [if_pos rfl] at H; exact H
   clear H
   have H := H1
   clear H1
   replace H := Option.bind_eq_some_iff.mp H
   obtain ⟨t164, A140, H⟩ := H
   replace H : (some (t159, t160, t157, t164)) = some (r1, r2, r3, r4) := H
   have A14 := Aside0.mk A140
   clear A140
   simp only [Option.some.injEq, Prod.mk.injEq] at H
   obtain ⟨rfl, rfl, rfl, rfl⟩ := H
   go_enter Tryz.func33, Tryz.ntmps33
   go_wp2_with (first | ((with_reducible refine gate_callee (f := 64) rfl ?_); refine goesL_ (some 10) rfl rfl Tryz.func64 (by kernel_rfl) rfl #[.string a0, .int .u8 43] rfl (by (try simp only [List.map_toArray, List.map_cons, List.map_nil]); first | done | rfl | (simp only [List.length_drop, List.length_take]; rfl)) ?_; (with_reducible refine (spec_cutAt.calls k a0 43 t156 t157 false _ A2.out).mono ?_); rintro e w' ⟨rfl, ⟨nd, rfl⟩⟩; refine ⟨_, rfl, ?_⟩) | ((with_reducible refine gate_callee (f := 64) rfl ?_); refine goesL_ (some 16) rfl rfl Tryz.func64 (by kernel_rfl) rfl #[.string t156, .int .u8 45] rfl (by (try simp only [List.map_toArray, List.map_cons, List.map_nil]); first | done | rfl | (simp only [List.length_drop, List.length_take]; rfl)) ?_; (with_reducible refine (spec_cutAt.calls k t156 45 t159 t160 true _ A3.out).mono ?_); rintro e w' ⟨rfl, ⟨nd, rfl⟩⟩; refine ⟨_, rfl, ?_⟩) | (go_at_call 16; (with_reducible refine (spec_ValidPre.calls k t160 t164 _ A14.out).mono ?_); rintro e w15 ⟨rfl, hb⟩; have n0_ := Aside0.mk (below_step (by repeat (first | (with_reducible first | exact HB.out | apply below_alloc | apply pw_below_drewN | apply below_drew1) | exact HB.out)) hb); clear HB; have HB := n0_; clear n0_; (try clear hb); (try clear hb2); (try clear hk); (try clear hi)))
   refine bodyPost_ret (results_list (rs := [.tmp 2, .tmp 3, .tmp 4, .tmp 5]) rfl (by simp) (.tmp (.tmp (.tmp (.tmp .nil))))) rfl ?_
   exact ⟨by first | rfl | (simp [errW_none, errW_some] <;> rfl) | (simp [*, errW_none, errW_some] <;> rfl) | (simp [bneNil]; done), by repeat (first | (with_reducible first | exact HB.out | apply below_alloc | apply pw_below_drewN | apply below_drew1) | exact HB.out)⟩
  ·
   replace c13 := Bool.eq_false_iff.mpr c13
   subst c13
   have H1 : (some (t159, t160, t157, true)) = some (r1, r2, r3, r4) := by rw [if_neg (show ¬ (false = true) by decide)] at H; exact H
   clear H
   have H := H1
   clear H1
   simp only [Option.some.injEq, Prod.mk.injEq] at H
   obtain ⟨rfl, rfl, rfl, rfl⟩ := H
   go_enter Tryz.func33, Tryz.ntmps33
   go_wp2_with (first | ((with_reducible refine gate_callee (f := 64) rfl ?_); refine goesL_ (some 10) rfl rfl Tryz.func64 (by kernel_rfl) rfl #[.string a0, .int .u8 43] rfl (by (try simp only [List.map_toArray, List.map_cons, List.map_nil]); first | done | rfl | (simp only [List.length_drop, List.length_take]; rfl)) ?_; (with_reducible refine (spec_cutAt.calls k a0 43 t156 t157 false _ A2.out).mono ?_); rintro e w' ⟨rfl, ⟨nd, rfl⟩⟩; refine ⟨_, rfl, ?_⟩) | ((with_reducible refine gate_callee (f := 64) rfl ?_); refine goesL_ (some 16) rfl rfl Tryz.func64 (by kernel_rfl) rfl #[.string t156, .int .u8 45] rfl (by (try simp only [List.map_toArray, List.map_cons, List.map_nil]); first | done | rfl | (simp only [List.length_drop, List.length_take]; rfl)) ?_; (with_reducible refine (spec_cutAt.calls k t156 45 t159 t160 false _ A3.out).mono ?_); rintro e w' ⟨rfl, ⟨nd, rfl⟩⟩; refine ⟨_, rfl, ?_⟩))
   refine bodyPost_ret (results_list (rs := [.tmp 2, .tmp 3, .tmp 4, .tmp 5]) rfl (by simp) (.tmp (.tmp (.tmp (.tmp .nil))))) rfl ?_
   exact ⟨by first | rfl | (simp [errW_none, errW_some] <;> rfl) | (simp [*, errW_none, errW_some] <;> rfl) | (simp [bneNil]; done), by repeat (first | (with_reducible first | exact HB.out | apply below_alloc | apply pw_below_drewN | apply below_drew1) | exact HB.out)⟩

end Go.Proofs.YtjgedenoaocfjaaGreatDoor.PX
namespace Go.Proofs.YtjgedenoaocfjaaGreatDoor.PX

open Go.RowKit Go.Proofs.YtjgedenoaocfjaaGreatDoorW.PrintWords Go.Proofs.YtjgedenoaocfjaaGreatDoorW.PrintLast Go.Proofs.YtjgedenoaocfjaaGreatDoorW.PrintMore

attribute [local go_sem] max2_int min2_int max_two min_two max_three min_three max_four min_four   -- for this text's walks alone

set_option linter.unusedVariables false

set_option linter.unusedSimpArgs false

def semver_zzIndex.l0 : Nat → ByteArray → ByteArray → Int → Option (Int)
  | 0, _, _, _ => none
  | k + 1, x0, x1, x5 => if (wrap64 (x5 + (x1.size : Int))) ≤ (x0.size : Int) then (if 0 ≤ x5 then (if x5 ≤ (wrap64 (x5 + (x1.size : Int))) then (if (x0.extract (x5 : Int).toNat ((wrap64 (x5 + (x1.size : Int))) : Int).toNat).toList = x1.toList then (some x5) else (semver_zzIndex.l0 k x0 x1 (wrap64 (x5 + 1)))) else (none)) else (none)) else (some (-1))

def semver_zzIndex.f (k : Nat) (a0 : ByteArray) (a1 : ByteArray) : Option (Int) := semver_zzIndex.l0 k a0 a1 0

set_option maxHeartbeats 80000000 in
set_option maxRecDepth 100000 in
theorem semver_zzIndex.calls (k : Nat) (a0 : ByteArray) (a1 : ByteArray) (r : Int) (w : World) (h : semver_zzIndex.f k a0 a1 = some r) :
    Calls Tryz.prog 75 #[.string a0, .string a1] w fun e w' => e = .returned (.int .i64 r) ∧ Drawn0 w w' := by
  have H : (semver_zzIndex.l0 k a0 a1 0) = some r := h
  clear h
  have H' := Aside0.mk H
  clear H
  go_enter Tryz.func75, Tryz.ntmps75
  go_wp2
  go_loopg [5] k (fun kq v5 w' => ∃ (x5_1 : Int), v5 = .int .i64 x5_1 ∧ Aside0 (semver_zzIndex.l0 kq a0 a1 x5_1 = some r) ∧ Aside0 (kq ≤ k) ∧ Drawn0 w w')
  case atStart => exact ⟨(0), (by first | rfl | (simp; done) | (simp [*]; done)), H', ⟨Nat.le_refl _⟩, by repeat (first | exact Drawn0.refl _ | apply Drawn0.step)⟩
  case round =>
    clear H'
    try clear p2
    obtain ⟨x5_1, rfl, HA, HK1, ⟨m1, rfl⟩⟩ := hrel
    cases gk with
    | zero => exact absurd HA.out (by simp [semver_zzIndex.l0])
    | succ k1 =>
      have H := HA.out
      clear HA
      simp only [semver_zzIndex.l0] at H
      by_cases c3 : (wrap64 (x5_1 + (a1.size : Int))) ≤ (a0.size : Int)
      · rw [if_pos c3] at H
        have c3b0 : decide ((wrap64 (x5_1 + (a1.size : Int))) ≤ (a0.size : Int)) = true := decide_eq_true c3
        clear c3
        by_cases c4 : 0 ≤ x5_1
        · rw [if_pos c4] at H
          have c4b0 := eq_true c4
          have c4b1 : decide (0 ≤ x5_1) = true := decide_eq_true c4
          clear c4
          by_cases c5 : x5_1 ≤ (wrap64 (x5_1 + (a1.size : Int)))
          · rw [if_pos c5] at H
            have c5b0 := eq_true c5
            have c5b1 : decide (x5_1 ≤ (wrap64 (x5_1 + (a1.size : Int)))) = true := decide_eq_true c5
            have c6b0 := eq_true (of_decide_eq_true (by first | (with_reducible assumption) | assumption) : (wrap64 (x5_1 + (a1.size : Int))) ≤ (a0.size : Int))
            by_cases c7 : (a0.extract (x5_1 : Int).toNat ((wrap64 (x5_1 + (a1.size : Int))) : Int).toNat).toList = a1.toList
            · rw [if_pos c7] at H
              have c7b0 : ((a0.extract (x5_1 : Int).toNat ((wrap64 (x5_1 + (a1.size : Int))) : Int).toNat).toList == a1.toList) = true := beq_iff_eq.mpr c7
              have c7b1 : ((a0.extract (x5_1 : Int).toNat ((wrap64 (x5_1 + (a1.size : Int))) : Int).toNat).toList != a1.toList) = false := bne_eq_false_iff_eq.mpr c7
              clear c7
              obtain rfl := Option.some.inj H
              go_wp2
              go_ret
              exact ⟨by first | rfl | (simp; done) | (simp [*]; done) | (simp [bneNil]; done), by repeat (first | exact Drawn0.refl _ | apply Drawn0.step)⟩
            · rw [if_neg c7] at H
              have c7b0 : ((a0.extract (x5_1 : Int).toNat ((wrap64 (x5_1 + (a1.size : Int))) : Int).toNat).toList == a1.toList) = false := beq_eq_false_iff_ne.mpr c7
              have c7b1 : ((a0.extract (x5_1 : Int).toNat ((wrap64 (x5_1 + (a1.size : Int))) : Int).toNat).toList != a1.toList) = true := bne_iff_ne.mpr c7
              have H' := Aside0.mk H
              clear H
              go_wp2
              go_roundg k1
              case measure => have := HK1.out; omega
              case rel => exact ⟨(wrap64 (x5_1 + 1)), (by first | rfl | (simp; done) | (simp [*]; done)), H', ⟨by have := HK1.out; omega⟩, by repeat (first | exact Drawn0.refl _ | apply Drawn0.step)⟩
          · rw [if_neg c5] at H
            exact absurd H (by simp)
        · rw [if_neg c4] at H
          exact absurd H (by simp)
      · rw [if_neg c3] at H
        have c3b0 : decide ((wrap64 (x5_1 + (a1.size : Int))) ≤ (a0.size : Int)) = false := decide_eq_false c3
        clear c3
        obtain rfl := Option.some.inj H
        go_wp2
        go_ret
        exact ⟨by first | rfl | (simp; done) | (simp [*]; done) | (simp [bneNil]; done), by repeat (first | exact Drawn0.refl _ | apply Drawn0.step)⟩

def semver_zzSplit.l0 : Nat → ByteArray → ByteArray → List ByteArray → Option (List ByteArray)
  | 0, _, _, _ => none
  | k + 1, x0, x1, x5 => (semver_zzIndex.f k x0 x1).bind fun t246 => (if t246 < 0 then (if x5.length < 8796093022208 then (some (x5 ++ [x0])) else (none)) else (if 0 ≤ t246 then (if t246 ≤ (x0.size : Int) then (if x5.length < 8796093022208 then (if 0 ≤ (wrap64 (t246 + (x1.size : Int))) then (if (wrap64 (t246 + (x1.size : Int))) ≤ (x0.size : Int) then (semver_zzSplit.l0 k (x0.extract ((wrap64 (t246 + (x1.size : Int))) : Int).toNat x0.size) x1 (x5 ++ [x0.extract 0 (t246 : Int).toNat])) else (none)) else (none)) else (none)) else (none)) else (none)))

def semver_zzSplit.f (k : Nat) (a0 : ByteArray) (a1 : ByteArray) : Option (List ByteArray) := semver_zzSplit.l0 k a0 a1 ([] : List ByteArray)

set_option maxHeartbeats 80000000 in
set_option maxRecDepth 100000 in
theorem semver_zzSplit.calls (k : Nat) (a0 : ByteArray) (a1 : ByteArray) (r : List ByteArray) (w : World) (h : semver_zzSplit.f k a0 a1 = some r) :
  Calls Tryz.prog 76 #[.string a0, .string a1] w fun e w' => ∃ v0_ : Value, e = .returned (v0_) ∧ Kd.R Kd.string 9 w' w.heap.size (fun _ => True) v0_ r ∧ Below w.heap.size w w' := by
 have HB := Aside0.mk (Below.refl w.heap.size w)
 have H : (semver_zzSplit.l0 k a0 a1 ([] : List ByteArray)) = some r := h
 clear h
 have H' := Aside0.mk H
 clear H
 go_enter Tryz.func76, Tryz.ntmps76
 go_wp2
 go_loopg [0, 5] k (fun kq v0 v5 w' => ∃ (x0_1 : ByteArray) (x5_1 : List ByteArray), v0 = .string x0_1 ∧ Aside0 (semver_zzSplit.l0 kq x0_1 a1 x5_1 = some r) ∧ Aside0 (kq ≤ k) ∧ Aside0 (Kd.R Kd.string 9 w' w.heap.size (fun _ => True) v5 x5_1) ∧ Aside0 (Below w.heap.size w w'))
 case atStart => exact ⟨(a0), (([] : List ByteArray)), (by first | rfl | (simp; done) | (simp [*]; done)), H', ⟨Nat.le_refl _⟩, ⟨by first | exact Kd.R_nil _ _ _ _ _ | exact Kd.N_nil _ _ _ _ _ | exact Kd.V_nil _ _ _ _ _ | exact Kd.Q_nil _ _ _ _ _ | exact Kd.S_nil _ _ _ _ _⟩, ⟨by repeat (first | (with_reducible first | exact HB.out | apply below_alloc | apply pw_below_drewN | apply below_drew1) | exact HB.out)⟩⟩
 case round =>
  clear H'
  try clear p2
  obtain ⟨x0_1, x5_1, rfl, HA, HK1, HO_5, HB⟩ := hrel
  cases gk with
  | zero => exact absurd HA.out (by simp [semver_zzSplit.l0])
  | succ k1 =>
   have H := HA.out
   clear HA
   simp only [semver_zzSplit.l0] at H
   replace H := Option.bind_eq_some_iff.mp H
   obtain ⟨t246, A30, H⟩ := H
   replace H : (if t246 < 0 then (if x5_1.length < 8796093022208 then (some (x5_1 ++ [x0_1])) else (none)) else (if 0 ≤ t246 then (if t246 ≤ (x0_1.size : Int) then (if x5_1.length < 8796093022208 then (if 0 ≤ (wrap64 (t246 + (a1.size : Int))) then (if (wrap64 (t246 + (a1.size : Int))) ≤ (x0_1.size : Int) then (semver_zzSplit.l0 k1 (x0_1.extract ((wrap64 (t246 + (a1.size : Int))) : Int).toNat x0_1.size) a1 (x5_1 ++ [x0_1.extract 0 (t246 : Int).toNat])) else (none)) else (none)) else (none)) else (none)) else (none))) = some r := H
   have A3 := Aside0.mk A30
   clear A30
   by_cases c4 : t246 < 0
   ·
    rw [if_pos c4] at H
    have c4b0 : decide (t246 < 0) = true := decide_eq_true c4
    clear c4
    by_cases c5 : x5_1.length < 8796093022208
    ·
     rw [if_pos c5] at H
     have LMc5 := Aside0.mk c5
     clear c5
     obtain ⟨y247, hy247⟩ : ∃ y_ : List ByteArray, y_ = (x5_1 ++ [x0_1]) := ⟨_, rfl⟩
     replace H : (some y247) = some r := by first | (rw [hy247]; with_reducible exact H) | (have H2_ := (Option.bind_some _ _).symm.trans H; rw [hy247]; with_reducible exact H2_) | (have H2_ := (Option.bind_some _ _).symm.trans H; with_reducible exact H2_) | with_reducible exact H | (rw [hy247]; exact H) | exact H
     have Ny247 := Aside0.mk hy247
     clear hy247
     obtain rfl := Option.some.inj H
     go_wp2_with (first | ((with_reducible refine gate_callee (f := 75) rfl ?_); refine goesL_ (some 9) rfl rfl Tryz.func75 (by kernel_rfl) rfl #[.string x0_1, .string a1] rfl (by (try simp only [List.map_toArray, List.map_cons, List.map_nil]); first | done | rfl | (simp only [List.length_drop, List.length_take]; rfl)) ?_; (with_reducible refine (semver_zzIndex.calls k1 x0_1 a1 t246 _ A3.out).mono ?_); rintro e w' ⟨rfl, ⟨nd, rfl⟩⟩; refine ⟨_, rfl, ?_⟩) | ((with_reducible refine gate_builtin (b := .append) (xs := #[.tmp 12, .tmp 14]) rfl ?_); at_builtin; refine Kd.R_append Kd.string (w0 := w) w.heap.size rfl (.tmp 12) (.tmp 14) 46 9 (.string ⟨#[]⟩) 16 rfl Tryz.underlying46 info9 rfl (by decide) (by omega) u5 x5_1 x0_1 [.string x0_1] (fun _ => True) (fun _ => False) rfl rfl ?aP (fun _ hk => hk.elim) ?aF ?aO ?aB ?aS ?aL ?_; (case aP => exact rfl); (case aB => exact (by repeat (first | (with_reducible first | exact HB.out | apply below_alloc | apply pw_below_drewN | apply below_drew1) | exact HB.out))); (case aF => exact (fun _ _ => trivial)); (case aO => exact (by (with_reducible repeat (first | apply Kd.R_alloc | apply Kd.R_drewN | apply Kd.R_drew)); exact HO_5.out)); (case aS => exact (below_size (by repeat (first | (with_reducible first | exact HB.out | apply below_alloc | apply pw_below_drewN | apply below_drew1) | exact HB.out)))); (case aL => have := LMc5.out; omega); intro v248 w6 ho hb hg hat; rw [← Ny247.out] at ho; have n0_ := Aside0.mk (hb); have n1_ := Aside0.mk (ho); clear HB; clear HO_5; have HB := n0_; have HO249 := n1_; clear n0_ n1_; clear ho hb hg hat))
     go_ret
     exact ⟨_, by first | rfl | (simp [errW_none, errW_some] <;> rfl) | (simp [*, errW_none, errW_some] <;> rfl), by (with_reducible repeat (first | apply Kd.R_alloc | apply Kd.R_drewN | apply Kd.R_drew)); exact HO249.out, by repeat (first | (with_reducible first | exact HB.out | apply below_alloc | apply pw_below_drewN | apply below_drew1) | exact HB.out)⟩
    ·
     rw [if_neg c5] at H
     exact absurd H (by simp)
   ·
    rw [if_neg c4] at H
    have c4b0 : decide (t246 < 0) = false := decide_eq_false c4
    clear c4
    by_cases c7 : 0 ≤ t246
    ·
     rw [if_pos c7] at H
     have c7b0 := eq_true c7
     have c7b1 : decide (0 ≤ t246) = true := decide_eq_true c7
     clear c7
     by_cases c8 : t246 ≤ (x0_1.size : Int)
     ·
      rw [if_pos c8] at H
      have c8b0 := eq_true c8
      have c8b1 : decide (t246 ≤ (x0_1.size : Int)) = true := decide_eq_true c8
      clear c8
      by_cases c9 : x5_1.length < 8796093022208
      ·
       rw [if_pos c9] at H
       have LMc9 := Aside0.mk c9
       clear c9
       obtain ⟨y250, hy250⟩ : ∃ y_ : List ByteArray, y_ = (x5_1 ++ [x0_1.extract 0 (t246 : Int).toNat]) := ⟨_, rfl⟩
       replace H : (if 0 ≤ (wrap64 (t246 + (a1.size : Int))) then (if (wrap64 (t246 + (a1.size : Int))) ≤ (x0_1.size : Int) then (semver_zzSplit.l0 k1 (x0_1.extract ((wrap64 (t246 + (a1.size : Int))) : Int).toNat x0_1.size) a1 y250) else (none)) else (none)) = some r := by first | (rw [hy250]; with_reducible exact H) | (have H2_ := (Option.bind_some _ _).symm.trans H; rw [hy250]; with_reducible exact H2_) | (have H2_ := (Option.bind_some _ _).symm.trans H; with_reducible exact H2_) | with_reducible exact H | (rw [hy250]; exact H) | exact H
       have Ny250 := Aside0.mk hy250
       clear hy250
       obtain ⟨ji10, hji10⟩ : ∃ j_ : Int, (wrap64 (t246 + (a1.size : Int))) = j_ := ⟨_, rfl⟩
       replace H : (if 0 ≤ (ji10) then (if (ji10) ≤ (x0_1.size : Int) then (semver_zzSplit.l0 k1 (x0_1.extract ((ji10) : Int).toNat x0_1.size) a1 y250) else (none)) else (none)) = some r := by first | (rw [hji10] at H; exact H) | (simp only [hji10] at H ⊢; exact H)
       (try rw [hji10] at A3)
       have hji10w : (IntKind.i64.wrap (t246 + (a1.size : Int))) = ji10 := (i64_w _).trans hji10
       by_cases c11 : 0 ≤ (ji10)
       ·
        rw [if_pos c11] at H
        have c11b0 := eq_true c11
        have c11b1 : decide (0 ≤ (ji10)) = true := decide_eq_true c11
        clear c11
        by_cases c12 : (ji10) ≤ (x0_1.size : Int)
        ·
         rw [if_pos c12] at H
         have c12b0 := eq_true c12
         have c12b1 : decide ((ji10) ≤ (x0_1.size : Int)) = true := decide_eq_true c12
         clear c12
         have H' := Aside0.mk H
         clear H
         go_wp2_with (first | ((with_reducible refine gate_callee (f := 75) rfl ?_); refine goesL_ (some 9) rfl rfl Tryz.func75 (by kernel_rfl) rfl #[.string x0_1, .string a1] rfl (by (try simp only [List.map_toArray, List.map_cons, List.map_nil]); first | done | rfl | (simp only [List.length_drop, List.length_take]; rfl)) ?_; (with_reducible refine (semver_zzIndex.calls k1 x0_1 a1 t246 _ A3.out).mono ?_); rintro e w' ⟨rfl, ⟨nd, rfl⟩⟩; refine ⟨_, rfl, ?_⟩) | ((with_reducible refine gate_builtin (b := .append) (xs := #[.tmp 16, .tmp 20]) rfl ?_); at_builtin; refine Kd.R_append Kd.string (w0 := w) w.heap.size rfl (.tmp 16) (.tmp 20) 46 9 (.string ⟨#[]⟩) 16 rfl Tryz.underlying46 info9 rfl (by decide) (by omega) u5 x5_1 (x0_1.extract 0 (t246 : Int).toNat) [.string (x0_1.extract 0 (t246 : Int).toNat)] (fun _ => True) (fun _ => False) rfl rfl ?aP (fun _ hk => hk.elim) ?aF ?aO ?aB ?aS ?aL ?_; (case aP => exact rfl); (case aB => exact (by repeat (first | (with_reducible first | exact HB.out | apply below_alloc | apply pw_below_drewN | apply below_drew1) | exact HB.out))); (case aF => exact (fun _ _ => trivial)); (case aO => exact (by (with_reducible repeat (first | apply Kd.R_alloc | apply Kd.R_drewN | apply Kd.R_drew)); exact HO_5.out)); (case aS => exact (below_size (by repeat (first | (with_reducible first | exact HB.out | apply below_alloc | apply pw_below_drewN | apply below_drew1) | exact HB.out)))); (case aL => have := LMc9.out; omega); intro v251 w13 ho hb hg hat; rw [← Ny250.out] at ho; have n0_ := Aside0.mk (hb); have n1_ := Aside0.mk (ho); clear HB; clear HO_5; have HB := n0_; have HO252 := n1_; clear n0_ n1_; clear ho hb hg hat))
         go_roundg k1
         case measure => have := HK1.out; omega
         case rel => exact ⟨(x0_1.extract ((ji10) : Int).toNat x0_1.size), (y250), (by first | rfl | (simp; done) | (simp only [← hji10] <;> (first | rfl | simp)) | (simp [*]; done)), H', ⟨by have := HK1.out; omega⟩, ⟨by (with_reducible repeat (first | apply Kd.R_alloc | apply Kd.R_drewN | apply Kd.R_drew)); exact HO252.out⟩, ⟨by repeat (first | (with_reducible first | exact HB.out | apply below_alloc | apply pw_below_drewN | apply below_drew1) | exact HB.out)⟩⟩
        ·
         rw [if_neg c12] at H
         exact absurd H (by simp)
       ·
        rw [if_neg c11] at H
        exact absurd H (by simp)
      ·
       rw [if_neg c9] at H
       exact absurd H (by simp)
     ·
      rw [if_neg c8] at H
      exact absurd H (by simp)
    ·
     rw [if_neg c7] at H
     exact absurd H (by simp)

def semver_zzSplitN.l0 : Nat → ByteArray → ByteArray → Int → List ByteArray → Option (List ByteArray)
  | 0, _, _, _, _ => none
  | k + 1, x0, x1, x2, x7 => if (x7.length : Int) < (wrap64 (x2 - 1)) then ((semver_zzIndex.f k x0 x1).bind fun t253 => (if t253 < 0 then (if x7.length < 8796093022208 then (some (x7 ++ [x0])) else (none)) else (if 0 ≤ t253 then (if t253 ≤ (x0.size : Int) then (if x7.length < 8796093022208 then (if 0 ≤ (wrap64 (t253 + (x1.size : Int))) then (if (wrap64 (t253 + (x1.size : Int))) ≤ (x0.size : Int) then (semver_zzSplitN.l0 k (x0.extract ((wrap64 (t253 + (x1.size : Int))) : Int).toNat x0.size) x1 x2 (x7 ++ [x0.extract 0 (t253 : Int).toNat])) else (none)) else (none)) else (none)) else (none)) else (none)))) else (if x7.length < 8796093022208 then (some (x7 ++ [x0])) else (none))

def semver_zzSplitN.f (k : Nat) (a0 : ByteArray) (a1 : ByteArray) (a2 : Int) : Option (List ByteArray) := semver_zzSplitN.l0 k a0 a1 a2 ([] : List ByteArray)

set_option maxHeartbeats 80000000 in
set_option maxRecDepth 100000 in
theorem semver_zzSplitN.calls (k : Nat) (a0 : ByteArray) (a1 : ByteArray) (a2 : Int) (r : List ByteArray) (w : World) (h : semver_zzSplitN.f k a0 a1 a2 = some r) :
  Calls Tryz.prog 56 #[.string a0, .string a1, .int .i64 a2] w fun e w' => ∃ v0_ : Value, e = .returned (v0_) ∧ Kd.R Kd.string 9 w' w.heap.size (fun _ => True) v0_ r ∧ Below w.heap.size w w' := by
 have HB := Aside0.mk (Below.refl w.heap.size w)
 have H : (semver_zzSplitN.l0 k a0 a1 a2 ([] : List ByteArray)) = some r := h
 clear h
 have H' := Aside0.mk H
 clear H
 go_enter Tryz.func56, Tryz.ntmps56
 go_wp2
 go_loopg [0, 7] k (fun kq v0 v7 w' => ∃ (x0_1 : ByteArray) (x7_1 : List ByteArray), v0 = .string x0_1 ∧ Aside0 (semver_zzSplitN.l0 kq x0_1 a1 a2 x7_1 = some r) ∧ Aside0 (kq ≤ k) ∧ Aside0 (Kd.R Kd.string 9 w' w.heap.size (fun _ => True) v7 x7_1) ∧ Aside0 (Below w.heap.size w w'))
 case atStart => exact ⟨(a0), (([] : List ByteArray)), (by first | rfl | (simp; done) | (simp [*]; done)), H', ⟨Nat.le_refl _⟩, ⟨by first | exact Kd.R_nil _ _ _ _ _ | exact Kd.N_nil _ _ _ _ _ | exact Kd.V_nil _ _ _ _ _ | exact Kd.Q_nil _ _ _ _ _ | exact Kd.S_nil _ _ _ _ _⟩, ⟨by repeat (first | (with_reducible first | exact HB.out | apply below_alloc | apply pw_below_drewN | apply below_drew1) | exact HB.out)⟩⟩
 case round =>
  clear H'
  try clear p2
  obtain ⟨x0_1, x7_1, rfl, HA, HK1, HO_7, HB⟩ := hrel
  cases gk with
  | zero => exact absurd HA.out (by simp [semver_zzSplitN.l0])
  | succ k1 =>
   have H := HA.out
   clear HA
   simp only [semver_zzSplitN.l0] at H
   by_cases c4 : (x7_1.length : Int) < (wrap64 (a2 - 1))
   ·
    rw [if_pos c4] at H
    have c4b0 : decide ((x7_1.length : Int) < (wrap64 (a2 - 1))) = true := decide_eq_true c4
    clear c4
    replace H := Option.bind_eq_some_iff.mp H
    obtain ⟨t253, A50, H⟩ := H
    replace H : (if t253 < 0 then (if x7_1.length < 8796093022208 then (some (x7_1 ++ [x0_1])) else (none)) else (if 0 ≤ t253 then (if t253 ≤ (x0_1.size : Int) then (if x7_1.length < 8796093022208 then (if 0 ≤ (wrap64 (t253 + (a1.size : Int))) then (if (wrap64 (t253 + (a1.size : Int))) ≤ (x0_1.size : Int) then (semver_zzSplitN.l0 k1 (x0_1.extract ((wrap64 (t253 + (a1.size : Int))) : Int).toNat x0_1.size) a1 a2 (x7_1 ++ [x0_1.extract 0 (t253 : Int).toNat])) else (none)) else (none)) else (none)) else (none)) else (none))) = some r := H
    have A5 := Aside0.mk A50
    clear A50
    by_cases c6 : t253 < 0
    ·
     rw [if_pos c6] at H
     have c6b0 : decide (t253 < 0) = true := decide_eq_true c6
     clear c6
     by_cases c7 : x7_1.length < 8796093022208
     ·
      rw [if_pos c7] at H
      have LMc7 := Aside0.mk c7
      clear c7
      obtain ⟨y254, hy254⟩ : ∃ y_ : List ByteArray, y_ = (x7_1 ++ [x0_1]) := ⟨_, rfl⟩
      replace H : (some y254) = some r := by first | (rw [hy254]; with_reducible exact H) | (have H2_ := (Option.bind_some _ _).symm.trans H; rw [hy254]; with_reducible exact H2_) | (have H2_ := (Option.bind_some _ _).symm.trans H; with_reducible exact H2_) | with_reducible exact H | (rw [hy254]; exact H) | exact H
      have Ny254 := Aside0.mk hy254
      clear hy254
      obtain rfl := Option.some.inj H
      obtain ⟨Ao8, co8, eo8⟩ := Kd.R_slice HO_7.out
      subst eo8
      go_wp2_with (first | ((with_reducible refine gate_callee (f := 75) rfl ?_); refine goesL_ (some 16) rfl rfl Tryz.func75 (by kernel_rfl) rfl #[.string x0_1, .string a1] rfl (by (try simp only [List.map_toArray, List.map_cons, List.map_nil]); first | done | rfl | (simp only [List.length_drop, List.length_take]; rfl)) ?_; (with_reducible refine (semver_zzIndex.calls k1 x0_1 a1 t253 _ A5.out).mono ?_); rintro e w' ⟨rfl, ⟨nd, rfl⟩⟩; refine ⟨_, rfl, ?_⟩) | ((with_reducible refine gate_builtin (b := .append) (xs := #[.tmp 31, .tmp 33]) rfl ?_); at_builtin; refine Kd.R_append Kd.string (w0 := w) w.heap.size rfl (.tmp 31) (.tmp 33) 46 9 (.string ⟨#[]⟩) 16 rfl Tryz.underlying46 info9 rfl (by decide) (by omega) (.slice Ao8 x7_1.length co8) x7_1 x0_1 [.string x0_1] (fun _ => True) (fun _ => False) rfl rfl ?aP (fun _ hk => hk.elim) ?aF ?aO ?aB ?aS ?aL ?_; (case aP => exact rfl); (case aB => exact (by repeat (first | (with_reducible first | exact HB.out | apply below_alloc | apply pw_below_drewN | apply below_drew1) | exact HB.out))); (case aF => exact (fun _ _ => trivial)); (case aO => exact (by (with_reducible repeat (first | apply Kd.R_alloc | apply Kd.R_drewN | apply Kd.R_drew)); exact HO_7.out)); (case aS => exact (below_size (by repeat (first | (with_reducible first | exact HB.out | apply below_alloc | apply pw_below_drewN | apply below_drew1) | exact HB.out)))); (case aL => have := LMc7.out; omega); intro v255 w9 ho hb hg hat; rw [← Ny254.out] at ho; have n0_ := Aside0.mk (hb); have n1_ := Aside0.mk (ho); clear HB; clear HO_7; have HB := n0_; have HO256 := n1_; clear n0_ n1_; clear ho hb hg hat))
      go_ret
      exact ⟨_, by first | rfl | (simp [errW_none, errW_some] <;> rfl) | (simp [*, errW_none, errW_some] <;> rfl), by (with_reducible repeat (first | apply Kd.R_alloc | apply Kd.R_drewN | apply Kd.R_drew)); exact HO256.out, by repeat (first | (with_reducible first | exact HB.out | apply below_alloc | apply pw_below_drewN | apply below_drew1) | exact HB.out)⟩
     ·
      rw [if_neg c7] at H
      exact absurd H (by simp)
    ·
     rw [if_neg c6] at H
     have c6b0 : decide (t253 < 0) = false := decide_eq_false c6
     clear c6
     by_cases c10 : 0 ≤ t253
     ·
      rw [if_pos c10] at H
      have c10b0 := eq_true c10
      have c10b1 : decide (0 ≤ t253) = true := decide_eq_true c10
      clear c10
      by_cases c11 : t253 ≤ (x0_1.size : Int)
      ·
       rw [if_pos c11] at H
       have c11b0 := eq_true c11
       have c11b1 : decide (t253 ≤ (x0_1.size : Int)) = true := decide_eq_true c11
       clear c11
       by_cases c12 : x7_1.length < 8796093022208
       ·
        rw [if_pos c12] at H
        have LMc12 := Aside0.mk c12
        clear c12
        obtain ⟨y257, hy257⟩ : ∃ y_ : List ByteArray, y_ = (x7_1 ++ [x0_1.extract 0 (t253 : Int).toNat]) := ⟨_, rfl⟩
        replace H : (if 0 ≤ (wrap64 (t253 + (a1.size : Int))) then (if (wrap64 (t253 + (a1.size : Int))) ≤ (x0_1.size : Int) then (semver_zzSplitN.l0 k1 (x0_1.extract ((wrap64 (t253 + (a1.size : Int))) : Int).toNat x0_1.size) a1 a2 y257) else (none)) else (none)) = some r := by first | (rw [hy257]; with_reducible exact H) | (have H2_ := (Option.bind_some _ _).symm.trans H; rw [hy257]; with_reducible exact H2_) | (have H2_ := (Option.bind_some _ _).symm.trans H; with_reducible exact H2_) | with_reducible exact H | (rw [hy257]; exact H) | exact H
        have Ny257 := Aside0.mk hy257
        clear hy257
        obtain ⟨ji13, hji13⟩ : ∃ j_ : Int, (wrap64 (t253 + (a1.size : Int))) = j_ := ⟨_, rfl⟩
        replace H : (if 0 ≤ (ji13) then (if (ji13) ≤ (x0_1.size : Int) then (semver_zzSplitN.l0 k1 (x0_1.extract ((ji13) : Int).toNat x0_1.size) a1 a2 y257) else (none)) else (none)) = some r := by first | (rw [hji13] at H; exact H) | (simp only [hji13] at H ⊢; exact H)
        (try rw [hji13] at A5)
        have hji13w : (IntKind.i64.wrap (t253 + (a1.size : Int))) = ji13 := (i64_w _).trans hji13
        by_cases c14 : 0 ≤ (ji13)
        ·
         rw [if_pos c14] at H
         have c14b0 := eq_true c14
         have c14b1 : decide (0 ≤ (ji13)) = true := decide_eq_true c14
         clear c14
         by_cases c15 : (ji13) ≤ (x0_1.size : Int)
         ·
          rw [if_pos c15] at H
          have c15b0 := eq_true c15
          have c15b1 : decide ((ji13) ≤ (x0_1.size : Int)) = true := decide_eq_true c15
          clear c15
          have H' := Aside0.mk H
          clear H
          obtain ⟨Ao16, co16, eo16⟩ := Kd.R_slice HO_7.out
          subst eo16
          go_wp2_with (first | ((with_reducible refine gate_callee (f := 75) rfl ?_); refine goesL_ (some 16) rfl rfl Tryz.func75 (by kernel_rfl) rfl #[.string x0_1, .string a1] rfl (by (try simp only [List.map_toArray, List.map_cons, List.map_nil]); first | done | rfl | (simp only [List.length_drop, List.length_take]; rfl)) ?_; (with_reducible refine (semver_zzIndex.calls k1 x0_1 a1 t253 _ A5.out).mono ?_); rintro e w' ⟨rfl, ⟨nd, rfl⟩⟩; refine ⟨_, rfl, ?_⟩) | ((with_reducible refine gate_builtin (b := .append) (xs := #[.tmp 19, .tmp 23]) rfl ?_); at_builtin; refine Kd.R_append Kd.string (w0 := w) w.heap.size rfl (.tmp 19) (.tmp 23) 46 9 (.string ⟨#[]⟩) 16 rfl Tryz.underlying46 info9 rfl (by decide) (by omega) (.slice Ao16 x7_1.length co16) x7_1 (x0_1.extract 0 (t253 : Int).toNat) [.string (x0_1.extract 0 (t253 : Int).toNat)] (fun _ => True) (fun _ => False) rfl rfl ?aP (fun _ hk => hk.elim) ?aF ?aO ?aB ?aS ?aL ?_; (case aP => exact rfl); (case aB => exact (by repeat (first | (with_reducible first | exact HB.out | apply below_alloc | apply pw_below_drewN | apply below_drew1) | exact HB.out))); (case aF => exact (fun _ _ => trivial)); (case aO => exact (by (with_reducible repeat (first | apply Kd.R_alloc | apply Kd.R_drewN | apply Kd.R_drew)); exact HO_7.out)); (case aS => exact (below_size (by repeat (first | (with_reducible first | exact HB.out | apply below_alloc | apply pw_below_drewN | apply below_drew1) | exact HB.out)))); (case aL => have := LMc12.out; omega); intro v258 w17 ho hb hg hat; rw [← Ny257.out] at ho; have n0_ := Aside0.mk (hb); have n1_ := Aside0.mk (ho); clear HB; clear HO_7; have HB := n0_; have HO259 := n1_; clear n0_ n1_; clear ho hb hg hat))
          go_roundg k1
          case measure => have := HK1.out; omega
          case rel => exact ⟨(x0_1.extract ((ji13) : Int).toNat x0_1.size), (y257), (by first | rfl | (simp; done) | (simp only [← hji13] <;> (first | rfl | simp)) | (simp [*]; done)), H', ⟨by have := HK1.out; omega⟩, ⟨by (with_reducible repeat (first | apply Kd.R_alloc | apply Kd.R_drewN | apply Kd.R_drew)); exact HO259.out⟩, ⟨by repeat (first | (with_reducible first | exact HB.out | apply below_alloc | apply pw_below_drewN | apply below_drew1) | exact HB.out)⟩⟩
         ·
          rw [if_neg c15] at H
          exact absurd H (by simp)
        ·
         rw [if_neg c14] at H
         exact absurd H (by simp)
       ·
        rw [if_neg c12] at H
        exact absurd H (by simp)
      ·
       rw [if_neg c11] at H
       exact absurd H (by simp)
     ·
      rw [if_neg c10] at H
      exact absurd H (by simp)
   ·
    rw [if_neg c4] at H
    have c4b0 : decide ((x7_1.length : Int) < (wrap64 (a2 - 1))) = false := decide_eq_false c4
    clear c4
    by_cases c18 : x7_1.length < 8796093022208
    ·
     rw [if_pos c18] at H
     have LMc18 := Aside0.mk c18
     clear c18
     obtain ⟨y260, hy260⟩ : ∃ y_ : List ByteArray, y_ = (x7_1 ++ [x0_1]) := ⟨_, rfl⟩
     replace H : (some y260) = some r := by first | (rw [hy260]; with_reducible exact H) | (have H2_ := (Option.bind_some _ _).symm.trans H; rw [hy260]; with_reducible exact H2_) | (have H2_ := (Option.bind_some _ _).symm.trans H; with_reducible exact H2_) | with_reducible exact H | (rw [hy260]; exact H) | exact H
     have Ny260 := Aside0.mk hy260
     clear hy260
     obtain rfl := Option.some.inj H
     obtain ⟨Ao19, co19, eo19⟩ := Kd.R_slice HO_7.out
     subst eo19
     go_wp2_with (first | ((with_reducible refine gate_builtin (b := .append) (xs := #[.tmp 31, .tmp 33]) rfl ?_); at_builtin; refine Kd.R_append Kd.string (w0 := w) w.heap.size rfl (.tmp 31) (.tmp 33) 46 9 (.string ⟨#[]⟩) 16 rfl Tryz.underlying46 info9 rfl (by decide) (by omega) (.slice Ao19 x7_1.length co19) x7_1 x0_1 [.string x0_1] (fun _ => True) (fun _ => False) rfl rfl ?aP (fun _ hk => hk.elim) ?aF ?aO ?aB ?aS ?aL ?_; (case aP => exact rfl); (case aB => exact (by repeat (first | (with_reducible first | exact HB.out | apply below_alloc | apply pw_below_drewN | apply below_drew1) | exact HB.out))); (case aF => exact (fun _ _ => trivial)); (case aO => exact (by (with_reducible repeat (first | apply Kd.R_alloc | apply Kd.R_drewN | apply Kd.R_drew)); exact HO_7.out)); (case aS => exact (below_size (by repeat (first | (with_reducible first | exact HB.out | apply below_alloc | apply pw_below_drewN | apply below_drew1) | exact HB.out)))); (case aL => have := LMc18.out; omega); intro v261 w20 ho hb hg hat; rw [← Ny260.out] at ho; have n0_ := Aside0.mk (hb); have n1_ := Aside0.mk (ho); clear HB; clear HO_7; have HB := n0_; have HO262 := n1_; clear n0_ n1_; clear ho hb hg hat))
     go_ret
     exact ⟨_, by first | rfl | (simp [errW_none, errW_some] <;> rfl) | (simp [*, errW_none, errW_some] <;> rfl), by (with_reducible repeat (first | apply Kd.R_alloc | apply Kd.R_drewN | apply Kd.R_drew)); exact HO262.out, by repeat (first | (with_reducible first | exact HB.out | apply below_alloc | apply pw_below_drewN | apply below_drew1) | exact HB.out)⟩
    ·
     rw [if_neg c18] at H
     exact absurd H (by simp)

def semver_zzContains.f (k : Nat) (a0 : ByteArray) (a1 : ByteArray) : Option (Bool) := (semver_zzIndex.f k a0 a1).bind fun t263 => (some (decide (t263 ≥ 0)))

set_option maxHeartbeats 80000000 in
set_option maxRecDepth 100000 in
theorem semver_zzContains.calls (k : Nat) (a0 : ByteArray) (a1 : ByteArray) (r : Bool) (w : World) (h : semver_zzContains.f k a0 a1 = some r) :
    Calls Tryz.prog 57 #[.string a0, .string a1] w fun e w' => e = .returned (.bool r) ∧ Drawn0 w w' := by
  have H : ((semver_zzIndex.f k a0 a1).bind fun t263 => (some (decide (t263 ≥ 0)))) = some r := h
  clear h
  replace H := Option.bind_eq_some_iff.mp H
  obtain ⟨t263, A30, H⟩ := H
  replace H : (some (decide (t263 ≥ 0))) = some r := H
  have A3 := Aside0.mk A30
  clear A30
  obtain rfl := Option.some.inj H
  go_enter Tryz.func57, Tryz.ntmps57
  go_wp2_with (first | ((with_reducible refine gate_callee (f := 75) rfl ?_); refine goesL_ (some 7) rfl rfl Tryz.func75 (by kernel_rfl) rfl #[.string a0, .string a1] rfl (by (try simp only [List.map_toArray, List.map_cons, List.map_nil]); first | done | rfl | (simp only [List.length_drop, List.length_take]; rfl)) ?_; (with_reducible refine (semver_zzIndex.calls k a0 a1 t263 _ A3.out).mono ?_); rintro e w' ⟨rfl, ⟨nd, rfl⟩⟩; refine ⟨_, rfl, ?_⟩))
  go_ret
  exact ⟨by first | rfl | (simp; done) | (simp [*]; done) | (simp [bneNil]; done), by repeat (first | exact Drawn0.refl _ | apply Drawn0.step)⟩

def semver_Version_Major.f (a0_0 : Int) (a0_1 : Int) (a0_2 : Int) (a0_3 : ByteArray) (a0_4 : ByteArray) (a0_5 : ByteArray) : Option (Int) := some a0_0

set_option maxHeartbeats 80000000 in
set_option maxRecDepth 100000 in
theorem semver_Version_Major.calls (a0_0 : Int) (a0_1 : Int) (a0_2 : Int) (a0_3 : ByteArray) (a0_4 : ByteArray) (a0_5 : ByteArray) (r : Int) (w : World) (h : semver_Version_Major.f a0_0 a0_1 a0_2 a0_3 a0_4 a0_5 = some r) :
    Calls Tryz.prog 51 #[.agg #[.int .u64 a0_0, .int .u64 a0_1, .int .u64 a0_2, .string a0_3, .string a0_4, .string a0_5]] w fun e w' => e = .returned (.int .u64 r) ∧ Below w.heap.size w w' := by
  have hu70 := Tryz.underlying70
  have HB := Aside0.mk (Below.refl w.heap.size w)
  have H : (some a0_0) = some r := h
  clear h
  obtain rfl := Option.some.inj H
  go_enter Tryz.func51, Tryz.ntmps51
  go_wp2_with (first | ((with_reducible refine gate_dst (N := 1) rfl ?_); refine box_event ?hg (N := 1) ?hd (cs := #[.int .u64 a0_0, .int .u64 a0_1, .int .u64 a0_2, .string a0_3, .string a0_4, .string a0_5]) (t := 70) ?hr ?_; (case hd => rfl); (case hg => rfl); (case hr => first | (go_simp; done) | (go_simp; rfl) | (go_simp; simp [u8w]; done)); intro gb269 hg w2 hbox hb; have n0_ := Aside0.mk (below_step (by repeat (first | (with_reducible first | exact HB.out | apply below_alloc | apply pw_below_drewN | apply below_drew1) | exact HB.out)) hb); have n1_ := Aside0.mk (hbox); have n2_ := Aside0.mk ((by rw [hg]; exact (below_size (by repeat (first | (with_reducible first | exact HB.out | apply below_alloc | apply pw_below_drewN | apply below_drew1) | exact HB.out))) : w.heap.size ≤ gb269)); have n3_ := Aside0.mk ((by rw [hg]; exact (below_size (by repeat (first | (with_reducible first | exact HB.out | apply below_alloc | apply pw_below_drewN | apply below_drew1) | exact HB.out))) : w.heap.size ≤ gb269)); clear HB; have HB := n0_; have BK269 := n1_; have GW269 := n2_; have GE269 := n3_; clear n0_ n1_ n2_ n3_; clear hb hbox hg; have hcz3_0 : w2.cell? ⟨gb269, 0, none⟩ = some (.int .u64 a0_0) := (blk_cell BK269.out 0).trans rfl; have hcz3_1 : w2.cell? ⟨gb269, 1, none⟩ = some (.int .u64 a0_1) := (blk_cell BK269.out 1).trans rfl; have hcz3_2 : w2.cell? ⟨gb269, 2, none⟩ = some (.int .u64 a0_2) := (blk_cell BK269.out 2).trans rfl; have hcz3_3 : w2.cell? ⟨gb269, 3, none⟩ = some (.string a0_3) := (blk_cell BK269.out 3).trans rfl; have hcz3_4 : w2.cell? ⟨gb269, 4, none⟩ = some (.string a0_4) := (blk_cell BK269.out 4).trans rfl; have hcz3_5 : w2.cell? ⟨gb269, 5, none⟩ = some (.string a0_5) := (blk_cell BK269.out 5).trans rfl; have hfz3_0 := blk_frozen BK269.out 0; have hfz3_1 := blk_frozen BK269.out 1; have hfz3_2 := blk_frozen BK269.out 2; have hfz3_3 := blk_frozen BK269.out 3; have hfz3_4 := blk_frozen BK269.out 4; have hfz3_5 := blk_frozen BK269.out 5))
  go_ret
  exact ⟨by first | rfl | (simp [errW_none, errW_some] <;> rfl) | (simp [*, errW_none, errW_some] <;> rfl) | (simp [bneNil]; done), by repeat (first | (with_reducible first | exact HB.out | apply below_alloc | apply pw_below_drewN | apply below_drew1 | refine below_set ?_ GE269.out) | exact HB.out)⟩

def semver_Version_Minor.f (a0_0 : Int) (a0_1 : Int) (a0_2 : Int) (a0_3 : ByteArray) (a0_4 : ByteArray) (a0_5 : ByteArray) : Option (Int) := some a0_1

set_option maxHeartbeats 80000000 in
set_option maxRecDepth 100000 in
theorem semver_Version_Minor.calls (a0_0 : Int) (a0_1 : Int) (a0_2 : Int) (a0_3 : ByteArray) (a0_4 : ByteArray) (a0_5 : ByteArray) (r : Int) (w : World) (h : semver_Version_Minor.f a0_0 a0_1 a0_2 a0_3 a0_4 a0_5 = some r) :
    Calls Tryz.prog 52 #[.agg #[.int .u64 a0_0, .int .u64 a0_1, .int .u64 a0_2, .string a0_3, .string a0_4, .string a0_5]] w fun e w' => e = .returned (.int .u64 r) ∧ Below w.heap.size w w' := by
  have hu70 := Tryz.underlying70
  have HB := Aside0.mk (Below.refl w.heap.size w)
  have H : (some a0_1) = some r := h
  clear h
  obtain rfl := Option.some.inj H
  go_enter Tryz.func52, Tryz.ntmps52
  go_wp2_with (first | ((with_reducible refine gate_dst (N := 1) rfl ?_); refine box_event ?hg (N := 1) ?hd (cs := #[.int .u64 a0_0, .int .u64 a0_1, .int .u64 a0_2, .string a0_3, .string a0_4, .string a0_5]) (t := 70) ?hr ?_; (case hd => rfl); (case hg => rfl); (case hr => first | (go_simp; done) | (go_simp; rfl) | (go_simp; simp [u8w]; done)); intro gb270 hg w2 hbox hb; have n0_ := Aside0.mk (below_step (by repeat (first | (with_reducible first | exact HB.out | apply below_alloc | apply pw_below_drewN | apply below_drew1) | exact HB.out)) hb); have n1_ := Aside0.mk (hbox); have n2_ := Aside0.mk ((by rw [hg]; exact (below_size (by repeat (first | (with_reducible first | exact HB.out | apply below_alloc | apply pw_below_drewN | apply below_drew1) | exact HB.out))) : w.heap.size ≤ gb270)); have n3_ := Aside0.mk ((by rw [hg]; exact (below_size (by repeat (first | (with_reducible first | exact HB.out | apply below_alloc | apply pw_below_drewN | apply below_drew1) | exact HB.out))) : w.heap.size ≤ gb270)); clear HB; have HB := n0_; have BK270 := n1_; have GW270 := n2_; have GE270 := n3_; clear n0_ n1_ n2_ n3_; clear hb hbox hg; have hcz3_0 : w2.cell? ⟨gb270, 0, none⟩ = some (.int .u64 a0_0) := (blk_cell BK270.out 0).trans rfl; have hcz3_1 : w2.cell? ⟨gb270, 1, none⟩ = some (.int .u64 a0_1) := (blk_cell BK270.out 1).trans rfl; have hcz3_2 : w2.cell? ⟨gb270, 2, none⟩ = some (.int .u64 a0_2) := (blk_cell BK270.out 2).trans rfl; have hcz3_3 : w2.cell? ⟨gb270, 3, none⟩ = some (.string a0_3) := (blk_cell BK270.out 3).trans rfl; have hcz3_4 : w2.cell? ⟨gb270, 4, none⟩ = some (.string a0_4) := (blk_cell BK270.out 4).trans rfl; have hcz3_5 : w2.cell? ⟨gb270, 5, none⟩ = some (.string a0_5) := (blk_cell BK270.out 5).trans rfl; have hfz3_0 := blk_frozen BK270.out 0; have hfz3_1 := blk_frozen BK270.out 1; have hfz3_2 := blk_frozen BK270.out 2; have hfz3_3 := blk_frozen BK270.out 3; have hfz3_4 := blk_frozen BK270.out 4; have hfz3_5 := blk_frozen BK270.out 5))
  go_ret
  exact ⟨by first | rfl | (simp [errW_none, errW_some] <;> rfl) | (simp [*, errW_none, errW_some] <;> rfl) | (simp [bneNil]; done), by repeat (first | (with_reducible first | exact HB.out | apply below_alloc | apply pw_below_drewN | apply below_drew1 | refine below_set ?_ GE270.out) | exact HB.out)⟩

def semver_Version_Patch.f (a0_0 : Int) (a0_1 : Int) (a0_2 : Int) (a0_3 : ByteArray) (a0_4 : ByteArray) (a0_5 : ByteArray) : Option (Int) := some a0_2

set_option maxHeartbeats 80000000 in
set_option maxRecDepth 100000 in
theorem semver_Version_Patch.calls (a0_0 : Int) (a0_1 : Int) (a0_2 : Int) (a0_3 : ByteArray) (a0_4 : ByteArray) (a0_5 : ByteArray) (r : Int) (w : World) (h : semver_Version_Patch.f a0_0 a0_1 a0_2 a0_3 a0_4 a0_5 = some r) :
    Calls Tryz.prog 53 #[.agg #[.int .u64 a0_0, .int .u64 a0_1, .int .u64 a0_2, .string a0_3, .string a0_4, .string a0_5]] w fun e w' => e = .returned (.int .u64 r) ∧ Below w.heap.size w w' := by
  have hu70 := Tryz.underlying70
  have HB := Aside0.mk (Below.refl w.heap.size w)
  have H : (some a0_2) = some r := h
  clear h
  obtain rfl := Option.some.inj H
  go_enter Tryz.func53, Tryz.ntmps53
  go_wp2_with (first | ((with_reducible refine gate_dst (N := 1) rfl ?_); refine box_event ?hg (N := 1) ?hd (cs := #[.int .u64 a0_0, .int .u64 a0_1, .int .u64 a0_2, .string a0_3, .string a0_4, .string a0_5]) (t := 70) ?hr ?_; (case hd => rfl); (case hg => rfl); (case hr => first | (go_simp; done) | (go_simp; rfl) | (go_simp; simp [u8w]; done)); intro gb271 hg w2 hbox hb; have n0_ := Aside0.mk (below_step (by repeat (first | (with_reducible first | exact HB.out | apply below_alloc | apply pw_below_drewN | apply below_drew1) | exact HB.out)) hb); have n1_ := Aside0.mk (hbox); have n2_ := Aside0.mk ((by rw [hg]; exact (below_size (by repeat (first | (with_reducible first | exact HB.out | apply below_alloc | apply pw_below_drewN | apply below_drew1) | exact HB.out))) : w.heap.size ≤ gb271)); have n3_ := Aside0.mk ((by rw [hg]; exact (below_size (by repeat (first | (with_reducible first | exact HB.out | apply below_alloc | apply pw_below_drewN | apply below_drew1) | exact HB.out))) : w.heap.size ≤ gb271)); clear HB; have HB := n0_; have BK271 := n1_; have GW271 := n2_; have GE271 := n3_; clear n0_ n1_ n2_ n3_; clear hb hbox hg; have hcz3_0 : w2.cell? ⟨gb271, 0, none⟩ = some (.int .u64 a0_0) := (blk_cell BK271.out 0).trans rfl; have hcz3_1 : w2.cell? ⟨gb271, 1, none⟩ = some (.int .u64 a0_1) := (blk_cell BK271.out 1).trans rfl; have hcz3_2 : w2.cell? ⟨gb271, 2, none⟩ = some (.int .u64 a0_2) := (blk_cell BK271.out 2).trans rfl; have hcz3_3 : w2.cell? ⟨gb271, 3, none⟩ = some (.string a0_3) := (blk_cell BK271.out 3).trans rfl; have hcz3_4 : w2.cell? ⟨gb271, 4, none⟩ = some (.string a0_4) := (blk_cell BK271.out 4).trans rfl; have hcz3_5 : w2.cell? ⟨gb271, 5, none⟩ = some (.string a0_5) := (blk_cell BK271.out 5).trans rfl; have hfz3_0 := blk_frozen BK271.out 0; have hfz3_1 := blk_frozen BK271.out 1; have hfz3_2 := blk_frozen BK271.out 2; have hfz3_3 := blk_frozen BK271.out 3; have hfz3_4 := blk_frozen BK271.out 4; have hfz3_5 := blk_frozen BK271.out 5))
  go_ret
  exact ⟨by first | rfl | (simp [errW_none, errW_some] <;> rfl) | (simp [*, errW_none, errW_some] <;> rfl) | (simp [bneNil]; done), by repeat (first | (with_reducible first | exact HB.out | apply below_alloc | apply pw_below_drewN | apply below_drew1 | refine below_set ?_ GE271.out) | exact HB.out)⟩

def semver_Version_Prerelease.f (a0_0 : Int) (a0_1 : Int) (a0_2 : Int) (a0_3 : ByteArray) (a0_4 : ByteArray) (a0_5 : ByteArray) : Option (ByteArray) := some a0_3

set_option maxHeartbeats 80000000 in
set_option maxRecDepth 100000 in
theorem semver_Version_Prerelease.calls (a0_0 : Int) (a0_1 : Int) (a0_2 : Int) (a0_3 : ByteArray) (a0_4 : ByteArray) (a0_5 : ByteArray) (r : ByteArray) (w : World) (h : semver_Version_Prerelease.f a0_0 a0_1 a0_2 a0_3 a0_4 a0_5 = some r) :
    Calls Tryz.prog 54 #[.agg #[.int .u64 a0_0, .int .u64 a0_1, .int .u64 a0_2, .string a0_3, .string a0_4, .string a0_5]] w fun e w' => e = .returned (.string r) ∧ Below w.heap.size w w' := by
  have hu70 := Tryz.underlying70
  have HB := Aside0.mk (Below.refl w.heap.size w)
  have H : (some a0_3) = some r := h
  clear h
  obtain rfl := Option.some.inj H
  go_enter Tryz.func54, Tryz.ntmps54
  go_wp2_with (first | ((with_reducible refine gate_dst (N := 1) rfl ?_); refine box_event ?hg (N := 1) ?hd (cs := #[.int .u64 a0_0, .int .u64 a0_1, .int .u64 a0_2, .string a0_3, .string a0_4, .string a0_5]) (t := 70) ?hr ?_; (case hd => rfl); (case hg => rfl); (case hr => first | (go_simp; done) | (go_simp; rfl) | (go_simp; simp [u8w]; done)); intro gb272 hg w2 hbox hb; have n0_ := Aside0.mk (below_step (by repeat (first | (with_reducible first | exact HB.out | apply below_alloc | apply pw_below_drewN | apply below_drew1) | exact HB.out)) hb); have n1_ := Aside0.mk (hbox); have n2_ := Aside0.mk ((by rw [hg]; exact (below_size (by repeat (first | (with_reducible first | exact HB.out | apply below_alloc | apply pw_below_drewN | apply below_drew1) | exact HB.out))) : w.heap.size ≤ gb272)); have n3_ := Aside0.mk ((by rw [hg]; exact (below_size (by repeat (first | (with_reducible first | exact HB.out | apply below_alloc | apply pw_below_drewN | apply below_drew1) | exact HB.out))) : w.heap.size ≤ gb272)); clear HB; have HB := n0_; have BK272 := n1_; have GW272 := n2_; have GE272 := n3_; clear n0_ n1_ n2_ n3_; clear hb hbox hg; have hcz3_0 : w2.cell? ⟨gb272, 0, none⟩ = some (.int .u64 a0_0) := (blk_cell BK272.out 0).trans rfl; have hcz3_1 : w2.cell? ⟨gb272, 1, none⟩ = some (.int .u64 a0_1) := (blk_cell BK272.out 1).trans rfl; have hcz3_2 : w2.cell? ⟨gb272, 2, none⟩ = some (.int .u64 a0_2) := (blk_cell BK272.out 2).trans rfl; have hcz3_3 : w2.cell? ⟨gb272, 3, none⟩ = some (.string a0_3) := (blk_cell BK272.out 3).trans rfl; have hcz3_4 : w2.cell? ⟨gb272, 4, none⟩ = some (.string a0_4) := (blk_cell BK272.out 4).trans rfl; have hcz3_5 : w2.cell? ⟨gb272, 5, none⟩ = some (.string a0_5) := (blk_cell BK272.out 5).trans rfl; have hfz3_0 := blk_frozen BK272.out 0; have hfz3_1 := blk_frozen BK272.out 1; have hfz3_2 := blk_frozen BK272.out 2; have hfz3_3 := blk_frozen BK272.out 3; have hfz3_4 := blk_frozen BK272.out 4; have hfz3_5 := blk_frozen BK272.out 5))
  go_ret
  exact ⟨by first | rfl | (simp [errW_none, errW_some] <;> rfl) | (simp [*, errW_none, errW_some] <;> rfl) | (simp [bneNil]; done), by repeat (first | (with_reducible first | exact HB.out | apply below_alloc | apply pw_below_drewN | apply below_drew1 | refine below_set ?_ GE272.out) | exact HB.out)⟩

def semver_Version_Metadata.f (a0_0 : Int) (a0_1 : Int) (a0_2 : Int) (a0_3 : ByteArray) (a0_4 : ByteArray) (a0_5 : ByteArray) : Option (ByteArray) := some a0_4

set_option maxHeartbeats 80000000 in
set_option maxRecDepth 100000 in
theorem semver_Version_Metadata.calls (a0_0 : Int) (a0_1 : Int) (a0_2 : Int) (a0_3 : ByteArray) (a0_4 : ByteArray) (a0_5 : ByteArray) (r : ByteArray) (w : World) (h : semver_Version_Metadata.f a0_0 a0_1 a0_2 a0_3 a0_4 a0_5 = some r) :
    Calls Tryz.prog 74 #[.agg #[.int .u64 a0_0, .int .u64 a0_1, .int .u64 a0_2, .string a0_3, .string a0_4, .string a0_5]] w fun e w' => e = .returned (.string r) ∧ Below w.heap.size w w' := by
  have hu70 := Tryz.underlying70
  have HB := Aside0.mk (Below.refl w.heap.size w)
  have H : (some a0_4) = some r := h
  clear h
  obtain rfl := Option.some.inj H
  go_enter Tryz.func74, Tryz.ntmps74
  go_wp2_with (first | ((with_reducible refine gate_dst (N := 1) rfl ?_); refine box_event ?hg (N := 1) ?hd (cs := #[.int .u64 a0_0, .int .u64 a0_1, .int .u64 a0_2, .string a0_3, .string a0_4, .string a0_5]) (t := 70) ?hr ?_; (case hd => rfl); (case hg => rfl); (case hr => first | (go_simp; done) | (go_simp; rfl) | (go_simp; simp [u8w]; done)); intro gb273 hg w2 hbox hb; have n0_ := Aside0.mk (below_step (by repeat (first | (with_reducible first | exact HB.out | apply below_alloc | apply pw_below_drewN | apply below_drew1) | exact HB.out)) hb); have n1_ := Aside0.mk (hbox); have n2_ := Aside0.mk ((by rw [hg]; exact (below_size (by repeat (first | (with_reducible first | exact HB.out | apply below_alloc | apply pw_below_drewN | apply below_drew1) | exact HB.out))) : w.heap.size ≤ gb273)); have n3_ := Aside0.mk ((by rw [hg]; exact (below_size (by repeat (first | (with_reducible first | exact HB.out | apply below_alloc | apply pw_below_drewN | apply below_drew1) | exact HB.out))) : w.heap.size ≤ gb273)); clear HB; have HB := n0_; have BK273 := n1_; have GW273 := n2_; have GE273 := n3_; clear n0_ n1_ n2_ n3_; clear hb hbox hg; have hcz3_0 : w2.cell? ⟨gb273, 0, none⟩ = some (.int .u64 a0_0) := (blk_cell BK273.out 0).trans rfl; have hcz3_1 : w2.cell? ⟨gb273, 1, none⟩ = some (.int .u64 a0_1) := (blk_cell BK273.out 1).trans rfl; have hcz3_2 : w2.cell? ⟨gb273, 2, none⟩ = some (.int .u64 a0_2) := (blk_cell BK273.out 2).trans rfl; have hcz3_3 : w2.cell? ⟨gb273, 3, none⟩ = some (.string a0_3) := (blk_cell BK273.out 3).trans rfl; have hcz3_4 : w2.cell? ⟨gb273, 4, none⟩ = some (.string a0_4) := (blk_cell BK273.out 4).trans rfl; have hcz3_5 : w2.cell? ⟨gb273, 5, none⟩ = some (.string a0_5) := (blk_cell BK273.out 5).trans rfl; have hfz3_0 := blk_frozen BK273.out 0; have hfz3_1 := blk_frozen BK273.out 1; have hfz3_2 := blk_frozen BK273.out 2; have hfz3_3 := blk_frozen BK273.out 3; have hfz3_4 := blk_frozen BK273.out 4; have hfz3_5 := blk_frozen BK273.out 5))
  go_ret
  exact ⟨by first | rfl | (simp [errW_none, errW_some] <;> rfl) | (simp [*, errW_none, errW_some] <;> rfl) | (simp [bneNil]; done), by repeat (first | (with_reducible first | exact HB.out | apply below_alloc | apply pw_below_drewN | apply below_drew1 | refine below_set ?_ GE273.out) | exact HB.out)⟩

def stringslite_HasPrefix.f (a0 : ByteArray) (a1 : ByteArray) : Option (Bool) := if (a0.size : Int) ≥ (a1.size : Int) then (if 0 ≤ (a1.size : Int) then (if (a1.size : Int) ≤ (a0.size : Int) then (some ((a0.extract 0 ((a1.size : Int) : Int).toNat).toList == a1.toList)) else (none)) else (none)) else (some false)

set_option maxHeartbeats 80000000 in
set_option maxRecDepth 100000 in
theorem stringslite_HasPrefix.calls (a0 : ByteArray) (a1 : ByteArray) (r : Bool) (w : World) (h : stringslite_HasPrefix.f a0 a1 = some r) :
    Calls Tryz.prog 101 #[.string a0, .string a1] w fun e w' => e = .returned (.bool r) ∧ Drawn0 w w' := by
  have H : (if (a0.size : Int) ≥ (a1.size : Int) then (if 0 ≤ (a1.size : Int) then (if (a1.size : Int) ≤ (a0.size : Int) then (some ((a0.extract 0 ((a1.size : Int) : Int).toNat).toList == a1.toList)) else (none)) else (none)) else (some false)) = some r := h
  clear h
  by_cases c3 : (a0.size : Int) ≥ (a1.size : Int)
  · rw [if_pos c3] at H
    have c3b0 : decide ((a1.size : Int) ≤ (a0.size : Int)) = true := decide_eq_true c3
    have c3b1 : decide (a1.size ≤ a0.size) = true := decide_eq_true (Int.ofNat_le.mp c3)
    clear c3
    by_cases c4 : 0 ≤ (a1.size : Int)
    · rw [if_pos c4] at H
      have c4b0 := eq_true c4
      have c4b1 : decide (0 ≤ (a1.size : Int)) = true := decide_eq_true c4
      clear c4
      by_cases c5 : (a1.size : Int) ≤ (a0.size : Int)
      · rw [if_pos c5] at H
        have c5b0 := eq_true c5
        have c5b1 : decide ((a1.size : Int) ≤ (a0.size : Int)) = true := decide_eq_true c5
        clear c5
        obtain rfl := Option.some.inj H
        go_enter Tryz.func101, Tryz.ntmps101
        go_wp2
        go_ret
        exact ⟨by first | rfl | (simp; done) | (simp [*]; done) | (simp [bneNil]; done), by repeat (first | exact Drawn0.refl _ | apply Drawn0.step)⟩
      · rw [if_neg c5] at H
        exact absurd H (by simp)
    · rw [if_neg c4] at H
      exact absurd H (by simp)
  · rw [if_neg c3] at H
    have c3b0 : decide ((a1.size : Int) ≤ (a0.size : Int)) = false := decide_eq_false c3
    have c3b1 : decide (a1.size ≤ a0.size) = false := decide_eq_false (fun h => c3 (Int.ofNat_le.mpr h))
    clear c3
    obtain rfl := Option.some.inj H
    go_enter Tryz.func101, Tryz.ntmps101
    go_wp2
    go_ret
    exact ⟨by first | rfl | (simp; done) | (simp [*]; done) | (simp [bneNil]; done), by repeat (first | exact Drawn0.refl _ | apply Drawn0.step)⟩

def stringslite_TrimPrefix.f (a0 : ByteArray) (a1 : ByteArray) : Option (ByteArray) := (stringslite_HasPrefix.f a0 a1).bind fun t274 => (if t274 = true then (if 0 ≤ (a1.size : Int) then (if (a1.size : Int) ≤ (a0.size : Int) then (some (a0.extract ((a1.size : Int) : Int).toNat a0.size)) else (none)) else (none)) else (some a0))

set_option maxHeartbeats 80000000 in
set_option maxRecDepth 100000 in
theorem stringslite_TrimPrefix.calls (a0 : ByteArray) (a1 : ByteArray) (r : ByteArray) (w : World) (h : stringslite_TrimPrefix.f a0 a1 = some r) :
    Calls Tryz.prog 86 #[.string a0, .string a1] w fun e w' => e = .returned (.string r) ∧ Drawn0 w w' := by
  have H : ((stringslite_HasPrefix.f a0 a1).bind fun t274 => (if t274 = true then (if 0 ≤ (a1.size : Int) then (if (a1.size : Int) ≤ (a0.size : Int) then (some (a0.extract ((a1.size : Int) : Int).toNat a0.size)) else (none)) else (none)) else (some a0))) = some r := h
  clear h
  replace H := Option.bind_eq_some_iff.mp H
  obtain ⟨t274, A30, H⟩ := H
  replace H : (if t274 = true then (if 0 ≤ (a1.size : Int) then (if (a1.size : Int) ≤ (a0.size : Int) then (some (a0.extract ((a1.size : Int) : Int).toNat a0.size)) else (none)) else (none)) else (some a0)) = some r := H
  have A3 := Aside0.mk A30
  clear A30
  by_cases c4 : t274 = true
  · subst c4
    have H1 : (if 0 ≤ (a1.size : Int) then (if (a1.size : Int) ≤ (a0.size : Int) then (some (a0.extract ((a1.size : Int) : Int).toNat a0.size)) else (none)) else (none)) = some r := by rw [if_pos rfl] at H; exact H
    clear H
    have H := H1
    clear H1
    by_cases c5 : 0 ≤ (a1.size : Int)
    · rw [if_pos c5] at H
      have c5b0 := eq_true c5
      have c5b1 : decide (0 ≤ (a1.size : Int)) = true := decide_eq_true c5
      clear c5
      by_cases c6 : (a1.size : Int) ≤ (a0.size : Int)
      · rw [if_pos c6] at H
        have c6b0 := eq_true c6
        have c6b1 : decide ((a1.size : Int) ≤ (a0.size : Int)) = true := decide_eq_true c6
        clear c6
        obtain rfl := Option.some.inj H
        go_enter Tryz.func86, Tryz.ntmps86
        go_wp2_with (first | ((with_reducible refine gate_callee (f := 101) rfl ?_); refine goesL_ (some 7) rfl rfl Tryz.func101 (by kernel_rfl) rfl #[.string a0, .string a1] rfl (by (try simp only [List.map_toArray, List.map_cons, List.map_nil]); first | done | rfl | (simp only [List.length_drop, List.length_take]; rfl)) ?_; (with_reducible refine (stringslite_HasPrefix.calls a0 a1 true _ A3.out).mono ?_); rintro e w' ⟨rfl, ⟨nd, rfl⟩⟩; refine ⟨_, rfl, ?_⟩))
        go_ret
        exact ⟨by first | rfl | (simp; done) | (simp [*]; done) | (simp [bneNil]; done), by repeat (first | exact Drawn0.refl _ | apply Drawn0.step)⟩
      · rw [if_neg c6] at H
        exact absurd H (by simp)
    · rw [if_neg c5] at H
      exact absurd H (by simp)
  · replace c4 := Bool.eq_false_iff.mpr c4
    subst c4
    have H1 : (some a0) = some r := by rw [if_neg (show ¬ (false = true) by decide)] at H; exact H
    clear H
    have H := H1
    clear H1
    obtain rfl := Option.some.inj H
    go_enter Tryz.func86, Tryz.ntmps86
    go_wp2_with (first | ((with_reducible refine gate_callee (f := 101) rfl ?_); refine goesL_ (some 7) rfl rfl Tryz.func101 (by kernel_rfl) rfl #[.string a0, .string a1] rfl (by (try simp only [List.map_toArray, List.map_cons, List.map_nil]); first | done | rfl | (simp only [List.length_drop, List.length_take]; rfl)) ?_; (with_reducible refine (stringslite_HasPrefix.calls a0 a1 false _ A3.out).mono ?_); rintro e w' ⟨rfl, ⟨nd, rfl⟩⟩; refine ⟨_, rfl, ?_⟩))
    go_ret
    exact ⟨by first | rfl | (simp; done) | (simp [*]; done) | (simp [bneNil]; done), by repeat (first | exact Drawn0.refl _ | apply Drawn0.step)⟩

def strings_TrimPrefix.f (a0 : ByteArray) (a1 : ByteArray) : Option (ByteArray) := (stringslite_TrimPrefix.f a0 a1).bind fun t275 => (some t275)

set_option maxHeartbeats 80000000 in
set_option maxRecDepth 100000 in
theorem strings_TrimPrefix.calls (a0 : ByteArray) (a1 : ByteArray) (r : ByteArray) (w : World) (h : strings_TrimPrefix.f a0 a1 = some r) :
    Calls Tryz.prog 73 #[.string a0, .string a1] w fun e w' => e = .returned (.string r) ∧ Drawn0 w w' := by
  have H : ((stringslite_TrimPrefix.f a0 a1).bind fun t275 => (some t275)) = some r := h
  clear h
  replace H := Option.bind_eq_some_iff.mp H
  obtain ⟨t275, A30, H⟩ := H
  replace H : (some t275) = some r := H
  have A3 := Aside0.mk A30
  clear A30
  obtain rfl := Option.some.inj H
  go_enter Tryz.func73, Tryz.ntmps73
  go_wp2_with (first | ((with_reducible refine gate_callee (f := 86) rfl ?_); refine goesL_ (some 7) rfl rfl Tryz.func86 (by kernel_rfl) rfl #[.string a0, .string a1] rfl (by (try simp only [List.map_toArray, List.map_cons, List.map_nil]); first | done | rfl | (simp only [List.length_drop, List.length_take]; rfl)) ?_; (with_reducible refine (stringslite_TrimPrefix.calls a0 a1 t275 _ A3.out).mono ?_); rintro e w' ⟨rfl, ⟨nd, rfl⟩⟩; refine ⟨_, rfl, ?_⟩))
  go_ret
  exact ⟨by first | rfl | (simp; done) | (simp [*]; done) | (simp [bneNil]; done), by repeat (first | exact Drawn0.refl _ | apply Drawn0.step)⟩

def spec_Number.l0 : Nat → ByteArray → Int → Int → Option (Int × Bool)
  | 0, _, _, _ => none
  | k + 1, x0, x4, x5 => if x5 < (x0.size : Int) then (if 0 ≤ x5 then (if x4 > ((18446744073709551615 - (((bt x0 x5) - 48) % 256)) / 10) then (some (0, false)) else (spec_Number.l0 k x0 (IntKind.u64.wrap ((IntKind.u64.wrap (x4 * 10)) + (((bt x0 x5) - 48) % 256))) (wrap64 (x5 + 1)))) else (none)) else (some (x4, true))

def spec_Number.f (k : Nat) (a0 : ByteArray) : Option (Int × Bool) := (spec_Digits.f k a0).bind fun t276 => (if t276 = true then (spec_Number.l0 k a0 0 0) else (some (0, false)))

set_option maxHeartbeats 80000000 in
set_option maxRecDepth 100000 in
theorem spec_Number.calls (k : Nat) (a0 : ByteArray) (r1 : Int) (r2 : Bool) (w : World) (h : spec_Number.f k a0 = some (r1, r2)) :
    Calls Tryz.prog 48 #[.string a0] w fun e w' => e = .returned (.tuple #[.int .u64 r1, .bool r2]) ∧ Drawn0 w w' := by
  have H : ((spec_Digits.f k a0).bind fun t276 => (if t276 = true then (spec_Number.l0 k a0 0 0) else (some (0, false)))) = some (r1, r2) := h
  clear h
  replace H := Option.bind_eq_some_iff.mp H
  obtain ⟨t276, A20, H⟩ := H
  replace H : (if t276 = true then (spec_Number.l0 k a0 0 0) else (some (0, false))) = some (r1, r2) := H
  have A2 := Aside0.mk A20
  clear A20
  by_cases c3 : t276 = true
  · subst c3
    have H1 : (spec_Number.l0 k a0 0 0) = some (r1, r2) := by rw [if_pos rfl] at H; exact H
    clear H
    have H := H1
    clear H1
    have H' := Aside0.mk H
    clear H
    go_enter Tryz.func48, Tryz.ntmps48
    go_wp2_with (first | ((with_reducible refine gate_callee (f := 41) rfl ?_); refine goesL_ (some 8) rfl rfl Tryz.func41 (by kernel_rfl) rfl #[.string a0] rfl (by (try simp only [List.map_toArray, List.map_cons, List.map_nil]); first | done | rfl | (simp only [List.length_drop, List.length_take]; rfl)) ?_; (with_reducible refine (spec_Digits.calls k a0 true _ A2.out).mono ?_); rintro e w' ⟨rfl, ⟨nd, rfl⟩⟩; refine ⟨_, rfl, ?_⟩))
    go_loopg [4, 5] k (fun kq v4 v5 w' => ∃ (x4_1 : Int) (x5_1 : Int), v4 = .int .u64 x4_1 ∧ v5 = .int .i64 x5_1 ∧ Aside0 (spec_Number.l0 kq a0 x4_1 x5_1 = some (r1, r2)) ∧ Aside0 (kq ≤ k) ∧ Drawn0 w w')
    case atStart => exact ⟨(0), (0), (by first | rfl | (simp; done) | (simp [*]; done)), (by first | rfl | (simp; done) | (simp [*]; done)), H', ⟨Nat.le_refl _⟩, by repeat (first | exact Drawn0.refl _ | apply Drawn0.step)⟩
    case round =>
      clear H'
      try clear p2
      try clear c3
      obtain ⟨x4_1, x5_1, rfl, rfl, HA, HK1, ⟨m1, rfl⟩⟩ := hrel
      cases gk with
      | zero => exact absurd HA.out (by simp [spec_Number.l0])
      | succ k1 =>
        have H := HA.out
        clear HA
        simp only [spec_Number.l0] at H
        by_cases c4 : x5_1 < (a0.size : Int)
        · rw [if_pos c4] at H
          have c4b0 : decide (x5_1 < (a0.size : Int)) = true := decide_eq_true c4
          clear c4
          by_cases c5 : 0 ≤ x5_1
          · rw [if_pos c5] at H
            have c5b0 : decide (0 ≤ x5_1) = true := decide_eq_true c5
            clear c5
            by_cases c7 : x4_1 > ((18446744073709551615 - (((bt a0 x5_1) - 48) % 256)) / 10)
            · rw [if_pos c7] at H
              have c7b0 : decide (((18446744073709551615 - (((bt a0 x5_1) - 48) % 256)) / 10) < x4_1) = true := decide_eq_true c7
              clear c7
              simp only [Option.some.injEq, Prod.mk.injEq] at H
              obtain ⟨rfl, rfl⟩ := H
              have p6 : 0 ≤ (x5_1 : Int) := of_decide_eq_true (by first | (with_reducible assumption) | assumption)
              have q6 : x5_1 < (a0.size : Int) := of_decide_eq_true (by first | (with_reducible assumption) | assumption)
              have hx6 := bt_at a0 x5_1
              replace p6 := eq_true p6
              replace q6 := eq_true q6
              go_wp2
              go_ret2
              exact ⟨by first | rfl | (simp; done) | (simp [*]; done) | (simp [bneNil]; done), by repeat (first | exact Drawn0.refl _ | apply Drawn0.step)⟩
            · rw [if_neg c7] at H
              have c7b0 : decide (((18446744073709551615 - (((bt a0 x5_1) - 48) % 256)) / 10) < x4_1) = false := decide_eq_false c7
              clear c7
              have H' := Aside0.mk H
              clear H
              have p6 : 0 ≤ (x5_1 : Int) := of_decide_eq_true (by first | (with_reducible assumption) | assumption)
              have q6 : x5_1 < (a0.size : Int) := of_decide_eq_true (by first | (with_reducible assumption) | assumption)
              have hx6 := bt_at a0 x5_1
              replace p6 := eq_true p6
              replace q6 := eq_true q6
              go_wp2
              go_roundg k1
              case measure => have := HK1.out; omega
              case rel => exact ⟨(IntKind.u64.wrap ((IntKind.u64.wrap (x4_1 * 10)) + (((bt a0 x5_1) - 48) % 256))), (wrap64 (x5_1 + 1)), (by first | rfl | (simp; done) | (simp [*]; done)), (by first | rfl | (simp; done) | (simp [*]; done)), H', ⟨by have := HK1.out; omega⟩, by repeat (first | exact Drawn0.refl _ | apply Drawn0.step)⟩
          · rw [if_neg c5] at H
            exact absurd H (by simp)
        · rw [if_neg c4] at H
          have c4b0 : decide (x5_1 < (a0.size : Int)) = false := decide_eq_false c4
          clear c4
          simp only [Option.some.injEq, Prod.mk.injEq] at H
          obtain ⟨rfl, rfl⟩ := H
          go_wp2
          go_ret2
          exact ⟨by first | rfl | (simp; done) | (simp [*]; done) | (simp [bneNil]; done), by repeat (first | exact Drawn0.refl _ | apply Drawn0.step)⟩
  · replace c3 := Bool.eq_false_iff.mpr c3
    subst c3
    have H1 : (some (0, false)) = some (r1, r2) := by rw [if_neg (show ¬ (false = true) by decide)] at H; exact H
    clear H
    have H := H1
    clear H1
    simp only [Option.some.injEq, Prod.mk.injEq] at H
    obtain ⟨rfl, rfl⟩ := H
    go_enter Tryz.func48, Tryz.ntmps48
    go_wp2_with (first | ((with_reducible refine gate_callee (f := 41) rfl ?_); refine goesL_ (some 8) rfl rfl Tryz.func41 (by kernel_rfl) rfl #[.string a0] rfl (by (try simp only [List.map_toArray, List.map_cons, List.map_nil]); first | done | rfl | (simp only [List.length_drop, List.length_take]; rfl)) ?_; (with_reducible refine (spec_Digits.calls k a0 false _ A2.out).mono ?_); rintro e w' ⟨rfl, ⟨nd, rfl⟩⟩; refine ⟨_, rfl, ?_⟩))
    go_ret2
    exact ⟨by first | rfl | (simp; done) | (simp [*]; done) | (simp [bneNil]; done), by repeat (first | exact Drawn0.refl _ | apply Drawn0.step)⟩

end Go.Proofs.YtjgedenoaocfjaaGreatDoor.PX
namespace Go.Proofs.YtjgedenoaocfjaaGreatDoor.PX

open Go.RowKit Go.Proofs.YtjgedenoaocfjaaGreatDoorW.PrintWords Go.Proofs.YtjgedenoaocfjaaGreatDoorW.PrintLast Go.Proofs.YtjgedenoaocfjaaGreatDoorW.PrintMore

attribute [local go_sem] max2_int min2_int max_two min_two max_three min_three max_four min_four   -- for this text's walks alone

set_option linter.unusedVariables false

set_option linter.unusedSimpArgs false

theorem eqA32 (d : Nat) (w : World) (x0 y0 : Int) (x1 y1 : Int) (x2 y2 : Int) (x3 y3 : ByteArray) (x4 y4 : ByteArray) :
    (Op.equalIn (d + 2) 32 (.agg #[.int .u64 x0, .int .u64 x1, .int .u64 x2, .string x3, .string x4]) (.agg #[.int .u64 y0, .int .u64 y1, .int .u64 y2, .string y3, .string y4])).run Tryz.prog w = .ok (x0 == y0 && (x1 == y1 && (x2 == y2 && (x3.toList == y3.toList && (x4.toList == y4.toList))))) w := by
  refine eqA_of Tryz.underlying32 (by kernel_rfl) ?_
  refine eqf_cons (by rfl) (by go_simp; rfl) (by go_simp; rfl) (by go_simp) ?_
  refine eqf_cons (by rfl) (by go_simp; rfl) (by go_simp; rfl) (by go_simp) ?_
  refine eqf_cons (by rfl) (by go_simp; rfl) (by go_simp; rfl) (by go_simp) ?_
  refine eqf_cons (by rfl) (by go_simp; rfl) (by go_simp; rfl) (by go_simp) ?_
  exact eqf_last (by rfl) (by go_simp; rfl) (by go_simp; rfl) (by go_simp)

end Go.Proofs.YtjgedenoaocfjaaGreatDoor.PX
