/- The row and the tied card of FnSemverKindOfNext, out of its printed walk and its plain law. For every input that the statement lets in. -/
import Derived.Test.YtnncjgoogjookaaDoorZCardSemverKindOfNext0
import Derived.Test.YtnncjgoogjookaaDoorZCardSemverKindOfNext5
import Derived.Test.YtnncjgoogjookaaDoorZCardSemverKindOfNext6
import Derived.Test.YtnncjgoogjookaaDoorProg
import Derived.Below
import Derived.Deep.Draws
import Derived.Deep.AppendLies
import Derived.Maps.AppendAt
import Derived.OwnWalk
import Derived.Laws.BytesArg
import Derived.Laws.MakeOwn
import Derived.Laws.OwnMore
import Derived.Deep.OwnRows
import Derived.Tactics
import Derived.Lib.ConvBytes
import Derived.Laws.Slices
import Derived.WalkKit
import Derived.KernelRfl
import Derived.RowKit3
import Derived.Deep.LoopGhost
import Derived.Deep.QuietTactic
import Derived.BigQuiet
import Derived.WideLaws
import Derived.Deep.DeepCutAuto
import Derived.Deep.CutBlock
import Derived.Deep.RegionHeld3
import Derived.Laws.Rows
import Derived.Lib.AppendStr
import Derived.ArgAppend
import Derived.Laws.IdiomCopy
import Derived.OrdersHeld
import Derived.Laws.BitsLemmas
import Derived.RowKit
import Derived.Laws.StructEq
namespace Go.Proofs.YtnncjgoogjookaaDoor.PX

open Go.RowKit Go.Proofs.YtnncjgoogjookaaDoorW.PrintWords Go.Proofs.YtnncjgoogjookaaDoorW.PrintLast Go.Proofs.YtnncjgoogjookaaDoorW.PrintMore

attribute [local go_sem] max2_int min2_int max_two min_two max_three min_three max_four min_four   -- for this text's walks alone

set_option linter.unusedVariables false

set_option linter.unusedSimpArgs false

def errW : Option Int → Value
  | none => .nilIface
  | some c => .iface 0 (.int .i64 c)

theorem errW_none : errW none = .nilIface := rfl

theorem errW_some (c : Int) : errW (some c) = .iface 0 (.int .i64 c) := rfl

theorem info9 : (Tryd.prog.info? 9).map (fun i => (i.zero, i.size, i.bytes)) = some (some (.string ⟨#[]⟩), 1, 16) := by kernel_rfl

theorem bneNil (l : List UInt8) : (l != []) = !l.isEmpty := by cases l <;> rfl

theorem szL1 (a : UInt8) : (⟨#[a]⟩ : ByteArray).size = 1 := rfl

theorem szL2 (a b : UInt8) : (⟨#[a, b]⟩ : ByteArray).size = 2 := rfl

theorem szL3 (a b c : UInt8) : (⟨#[a, b, c]⟩ : ByteArray).size = 3 := rfl

end Go.Proofs.YtnncjgoogjookaaDoor.PX
namespace Go.Proofs.YtnncjgoogjookaaDoor.PX

open Go.RowKit Go.Proofs.YtnncjgoogjookaaDoorW.PrintWords Go.Proofs.YtnncjgoogjookaaDoorW.PrintLast Go.Proofs.YtnncjgoogjookaaDoorW.PrintMore

attribute [local go_sem] max2_int min2_int max_two min_two max_three min_three max_four min_four   -- for this text's walks alone

set_option linter.unusedVariables false

set_option linter.unusedSimpArgs false

def spec_Identifiers.l0 : Nat → ByteArray → List ByteArray → Int → Int → Option (List ByteArray)
  | 0, _, _, _, _ => none
  | k + 1, x0, x3, x4, x5 => if x5 < (x0.size : Int) then (if 0 ≤ x5 then (if (bt x0 x5) = 46 then (if 0 ≤ x4 then (if x4 ≤ x5 then (if x5 ≤ (x0.size : Int) then (if x3.length < 8796093022208 then (spec_Identifiers.l0 k x0 (x3 ++ [x0.extract (x4 : Int).toNat (x5 : Int).toNat]) (wrap64 (x5 + 1)) (wrap64 (x5 + 1))) else (none)) else (none)) else (none)) else (none)) else (spec_Identifiers.l0 k x0 x3 x4 (wrap64 (x5 + 1)))) else (none)) else (if 0 ≤ x4 then (if x4 ≤ (x0.size : Int) then (if x3.length < 8796093022208 then (some (x3 ++ [x0.extract (x4 : Int).toNat x0.size])) else (none)) else (none)) else (none))

def spec_Identifiers.f (k : Nat) (a0 : ByteArray) : Option (List ByteArray) := spec_Identifiers.l0 k a0 ([] : List ByteArray) 0 0

set_option maxHeartbeats 80000000 in
set_option maxRecDepth 100000 in
theorem spec_Identifiers.calls (k : Nat) (a0 : ByteArray) (r : List ByteArray) (w : World) (h : spec_Identifiers.f k a0 = some r) :
  Calls Tryd.prog 14 #[.string a0] w fun e w' => ∃ v0_ : Value, e = .returned (v0_) ∧ Kd.R Kd.string 9 w' w.heap.size (fun _ => True) v0_ r ∧ Below w.heap.size w w' := by
 have HB := Aside0.mk (Below.refl w.heap.size w)
 have H : (spec_Identifiers.l0 k a0 ([] : List ByteArray) 0 0) = some r := h
 clear h
 have H' := Aside0.mk H
 clear H
 go_enter Tryd.func14, Tryd.ntmps14
 go_wp2
 go_loopg [3, 4, 5] k (fun kq v3 v4 v5 w' => ∃ (x3_1 : List ByteArray) (x4_1 : Int) (x5_1 : Int), v4 = .int .i64 x4_1 ∧ v5 = .int .i64 x5_1 ∧ Aside0 (spec_Identifiers.l0 kq a0 x3_1 x4_1 x5_1 = some r) ∧ Aside0 (kq ≤ k) ∧ Aside0 (Kd.R Kd.string 9 w' w.heap.size (fun _ => True) v3 x3_1) ∧ Aside0 (Below w.heap.size w w'))
 case atStart => exact ⟨(([] : List ByteArray)), (0), (0), (by first | rfl | (simp; done) | (simp [*]; done)), (by first | rfl | (simp; done) | (simp [*]; done)), H', ⟨Nat.le_refl _⟩, ⟨by first | exact Kd.R_nil _ _ _ _ _ | exact Kd.N_nil _ _ _ _ _ | exact Kd.V_nil _ _ _ _ _ | exact Kd.Q_nil _ _ _ _ _ | exact Kd.S_nil _ _ _ _ _⟩, ⟨by repeat (first | (with_reducible first | exact HB.out | apply below_alloc | apply pw_below_drewN | apply below_drew1) | exact HB.out)⟩⟩
 case round =>
  clear H'
  try clear c1
  obtain ⟨x3_1, x4_1, x5_1, rfl, rfl, HA, HK1, HO_3, HB⟩ := hrel
  cases gk with
  | zero => exact absurd HA.out (by simp [spec_Identifiers.l0])
  | succ k1 =>
   have H := HA.out
   clear HA
   simp only [spec_Identifiers.l0] at H
   by_cases c2 : x5_1 < (a0.size : Int)
   ·
    rw [if_pos c2] at H
    have c2b0 : decide (x5_1 < (a0.size : Int)) = true := decide_eq_true c2
    clear c2
    by_cases c3 : 0 ≤ x5_1
    ·
     rw [if_pos c3] at H
     have c3b0 : decide (0 ≤ x5_1) = true := decide_eq_true c3
     clear c3
     by_cases c5 : (bt a0 x5_1) = 46
     ·
      rw [if_pos c5] at H
      have c5b0 : ((bt a0 x5_1) == 46) = true := beq_iff_eq.mpr c5
      have c5b1 : ((bt a0 x5_1) != 46) = false := bne_eq_false_iff_eq.mpr c5
      clear c5
      by_cases c6 : 0 ≤ x4_1
      ·
       rw [if_pos c6] at H
       have c6b0 := eq_true c6
       have c6b1 : decide (0 ≤ x4_1) = true := decide_eq_true c6
       clear c6
       by_cases c7 : x4_1 ≤ x5_1
       ·
        rw [if_pos c7] at H
        have c7b0 := eq_true c7
        have c7b1 : decide (x4_1 ≤ x5_1) = true := decide_eq_true c7
        clear c7
        by_cases c8 : x5_1 ≤ (a0.size : Int)
        ·
         rw [if_pos c8] at H
         have c8b0 := eq_true c8
         have c8b1 : decide (x5_1 ≤ (a0.size : Int)) = true := decide_eq_true c8
         clear c8
         by_cases c9 : x3_1.length < 8796093022208
         ·
          rw [if_pos c9] at H
          have LMc9 := Aside0.mk c9
          clear c9
          obtain ⟨y101, hy101⟩ : ∃ y_ : List ByteArray, y_ = (x3_1 ++ [a0.extract (x4_1 : Int).toNat (x5_1 : Int).toNat]) := ⟨_, rfl⟩
          replace H : (spec_Identifiers.l0 k1 a0 y101 (wrap64 (x5_1 + 1)) (wrap64 (x5_1 + 1))) = some r := by first | (rw [hy101]; with_reducible exact H) | (have H2_ := (Option.bind_some _ _).symm.trans H; rw [hy101]; with_reducible exact H2_) | (have H2_ := (Option.bind_some _ _).symm.trans H; with_reducible exact H2_) | with_reducible exact H | (rw [hy101]; exact H) | exact H
          have Ny101 := Aside0.mk hy101
          clear hy101
          have H' := Aside0.mk H
          clear H
          have p4 : 0 ≤ (x5_1 : Int) := of_decide_eq_true (by first | (with_reducible assumption) | assumption)
          have q4 : x5_1 < (a0.size : Int) := of_decide_eq_true (by first | (with_reducible assumption) | assumption)
          have hx4 := bt_at a0 x5_1
          replace p4 := eq_true p4
          replace q4 := eq_true q4
          go_wp2_with (first | ((with_reducible refine gate_builtin (b := .append) (xs := #[.tmp 16, .tmp 21]) rfl ?_); at_builtin; refine Kd.R_append Kd.string (w0 := w) w.heap.size rfl (.tmp 16) (.tmp 21) 39 9 (.string ⟨#[]⟩) 16 rfl Tryd.underlying39 info9 rfl (by decide) (by omega) u3 x3_1 (a0.extract (x4_1 : Int).toNat (x5_1 : Int).toNat) [.string (a0.extract (x4_1 : Int).toNat (x5_1 : Int).toNat)] (fun _ => True) (fun _ => False) rfl rfl ?aP (fun _ hk => hk.elim) ?aF ?aO ?aB ?aS ?aL ?_; (case aP => exact rfl); (case aB => exact (by repeat (first | (with_reducible first | exact HB.out | apply below_alloc | apply pw_below_drewN | apply below_drew1) | exact HB.out))); (case aF => exact (fun _ _ => trivial)); (case aO => exact (by (with_reducible repeat (first | apply Kd.R_alloc | apply Kd.R_drewN | apply Kd.R_drew)); exact HO_3.out)); (case aS => exact (below_size (by repeat (first | (with_reducible first | exact HB.out | apply below_alloc | apply pw_below_drewN | apply below_drew1) | exact HB.out)))); (case aL => have := LMc9.out; omega); intro v102 w10 ho hb hg hat; rw [← Ny101.out] at ho; have n0_ := Aside0.mk (hb); have n1_ := Aside0.mk (ho); clear HB; clear HO_3; have HB := n0_; have HO103 := n1_; clear n0_ n1_; clear ho hb hg hat))
          go_roundg k1
          case measure => have := HK1.out; omega
          case rel => exact ⟨(y101), (wrap64 (x5_1 + 1)), (wrap64 (x5_1 + 1)), (by first | rfl | (simp; done) | (simp [*]; done)), (by first | rfl | (simp; done) | (simp [*]; done)), H', ⟨by have := HK1.out; omega⟩, ⟨by (with_reducible repeat (first | apply Kd.R_alloc | apply Kd.R_drewN | apply Kd.R_drew)); exact HO103.out⟩, ⟨by repeat (first | (with_reducible first | exact HB.out | apply below_alloc | apply pw_below_drewN | apply below_drew1) | exact HB.out)⟩⟩
         ·
          rw [if_neg c9] at H
          exact absurd H (by simp)
        ·
         rw [if_neg c8] at H
         exact absurd H (by simp)
       ·
        rw [if_neg c7] at H
        exact absurd H (by simp)
      ·
       rw [if_neg c6] at H
       exact absurd H (by simp)
     ·
      rw [if_neg c5] at H
      have c5b0 : ((bt a0 x5_1) == 46) = false := beq_eq_false_iff_ne.mpr c5
      have c5b1 : ((bt a0 x5_1) != 46) = true := bne_iff_ne.mpr c5
      have H' := Aside0.mk H
      clear H
      have p4 : 0 ≤ (x5_1 : Int) := of_decide_eq_true (by first | (with_reducible assumption) | assumption)
      have q4 : x5_1 < (a0.size : Int) := of_decide_eq_true (by first | (with_reducible assumption) | assumption)
      have hx4 := bt_at a0 x5_1
      replace p4 := eq_true p4
      replace q4 := eq_true q4
      go_wp2
      go_roundg k1
      case measure => have := HK1.out; omega
      case rel => exact ⟨(x3_1), (x4_1), (wrap64 (x5_1 + 1)), (by first | rfl | (simp; done) | (simp [*]; done)), (by first | rfl | (simp; done) | (simp [*]; done)), H', ⟨by have := HK1.out; omega⟩, ⟨by (with_reducible repeat (first | apply Kd.R_alloc | apply Kd.R_drewN | apply Kd.R_drew)); exact HO_3.out⟩, ⟨by repeat (first | (with_reducible first | exact HB.out | apply below_alloc | apply pw_below_drewN | apply below_drew1) | exact HB.out)⟩⟩
    ·
     rw [if_neg c3] at H
     exact absurd H (by simp)
   ·
    rw [if_neg c2] at H
    have c2b0 : decide (x5_1 < (a0.size : Int)) = false := decide_eq_false c2
    clear c2
    by_cases c11 : 0 ≤ x4_1
    ·
     rw [if_pos c11] at H
     have c11b0 := eq_true c11
     have c11b1 : decide (0 ≤ x4_1) = true := decide_eq_true c11
     clear c11
     by_cases c12 : x4_1 ≤ (a0.size : Int)
     ·
      rw [if_pos c12] at H
      have c12b0 := eq_true c12
      have c12b1 : decide (x4_1 ≤ (a0.size : Int)) = true := decide_eq_true c12
      clear c12
      by_cases c13 : x3_1.length < 8796093022208
      ·
       rw [if_pos c13] at H
       have LMc13 := Aside0.mk c13
       clear c13
       obtain ⟨y104, hy104⟩ : ∃ y_ : List ByteArray, y_ = (x3_1 ++ [a0.extract (x4_1 : Int).toNat a0.size]) := ⟨_, rfl⟩
       replace H : (some y104) = some r := by first | (rw [hy104]; with_reducible exact H) | (have H2_ := (Option.bind_some _ _).symm.trans H; rw [hy104]; with_reducible exact H2_) | (have H2_ := (Option.bind_some _ _).symm.trans H; with_reducible exact H2_) | with_reducible exact H | (rw [hy104]; exact H) | exact H
       have Ny104 := Aside0.mk hy104
       clear hy104
       obtain rfl := Option.some.inj H
       go_wp2_with (first | ((with_reducible refine gate_builtin (b := .append) (xs := #[.tmp 25, .tmp 29]) rfl ?_); at_builtin; refine Kd.R_append Kd.string (w0 := w) w.heap.size rfl (.tmp 25) (.tmp 29) 39 9 (.string ⟨#[]⟩) 16 rfl Tryd.underlying39 info9 rfl (by decide) (by omega) u3 x3_1 (a0.extract (x4_1 : Int).toNat a0.size) [.string (a0.extract (x4_1 : Int).toNat a0.size)] (fun _ => True) (fun _ => False) rfl rfl ?aP (fun _ hk => hk.elim) ?aF ?aO ?aB ?aS ?aL ?_; (case aP => exact rfl); (case aB => exact (by repeat (first | (with_reducible first | exact HB.out | apply below_alloc | apply pw_below_drewN | apply below_drew1) | exact HB.out))); (case aF => exact (fun _ _ => trivial)); (case aO => exact (by (with_reducible repeat (first | apply Kd.R_alloc | apply Kd.R_drewN | apply Kd.R_drew)); exact HO_3.out)); (case aS => exact (below_size (by repeat (first | (with_reducible first | exact HB.out | apply below_alloc | apply pw_below_drewN | apply below_drew1) | exact HB.out)))); (case aL => have := LMc13.out; omega); intro v105 w14 ho hb hg hat; rw [← Ny104.out] at ho; have n0_ := Aside0.mk (hb); have n1_ := Aside0.mk (ho); clear HB; clear HO_3; have HB := n0_; have HO106 := n1_; clear n0_ n1_; clear ho hb hg hat))
       go_ret
       exact ⟨_, by first | rfl | (simp [errW_none, errW_some] <;> rfl) | (simp [*, errW_none, errW_some] <;> rfl), by (with_reducible repeat (first | apply Kd.R_alloc | apply Kd.R_drewN | apply Kd.R_drew)); exact HO106.out, by repeat (first | (with_reducible first | exact HB.out | apply below_alloc | apply pw_below_drewN | apply below_drew1) | exact HB.out)⟩
      ·
       rw [if_neg c13] at H
       exact absurd H (by simp)
     ·
      rw [if_neg c12] at H
      exact absurd H (by simp)
    ·
     rw [if_neg c11] at H
     exact absurd H (by simp)

def spec_isDigit.f (a0 : Int) : Option (Bool) := if 48 ≤ a0 then (some (decide (a0 ≤ 57))) else (some false)

set_option maxHeartbeats 80000000 in
set_option maxRecDepth 100000 in
theorem spec_isDigit.calls (a0 : Int) (r : Bool) (w : World) (h : spec_isDigit.f a0 = some r) :
    Calls Tryd.prog 34 #[.int .u8 a0] w fun e w' => e = .returned (.bool r) ∧ Drawn0 w w' := by
  have H : (if 48 ≤ a0 then (some (decide (a0 ≤ 57))) else (some false)) = some r := h
  clear h
  by_cases c2 : 48 ≤ a0
  · rw [if_pos c2] at H
    have c2b0 : decide (48 ≤ a0) = true := decide_eq_true c2
    clear c2
    obtain rfl := Option.some.inj H
    go_enter Tryd.func34, Tryd.ntmps34
    go_wp2
    go_ret
    exact ⟨by first | rfl | (simp; done) | (simp [*]; done) | (simp [bneNil]; done), by repeat (first | exact Drawn0.refl _ | apply Drawn0.step)⟩
  · rw [if_neg c2] at H
    have c2b0 : decide (48 ≤ a0) = false := decide_eq_false c2
    clear c2
    obtain rfl := Option.some.inj H
    go_enter Tryd.func34, Tryd.ntmps34
    go_wp2
    go_ret
    exact ⟨by first | rfl | (simp; done) | (simp [*]; done) | (simp [bneNil]; done), by repeat (first | exact Drawn0.refl _ | apply Drawn0.step)⟩

def spec_isIdent.f (a0 : Int) : Option (Bool) := (spec_isDigit.f a0).bind fun t107 => (if t107 = true then (some true) else (if 65 ≤ a0 then (if a0 ≤ 90 then (some true) else (if 97 ≤ a0 then (if a0 ≤ 122 then (some true) else (some (a0 == 45))) else (some (a0 == 45)))) else (if 97 ≤ a0 then (if a0 ≤ 122 then (some true) else (some (a0 == 45))) else (some (a0 == 45)))))

set_option maxHeartbeats 80000000 in
set_option maxRecDepth 100000 in
theorem spec_isIdent.calls (a0 : Int) (r : Bool) (w : World) (h : spec_isIdent.f a0 = some r) :
  Calls Tryd.prog 24 #[.int .u8 a0] w fun e w' => e = .returned (.bool r) ∧ Drawn0 w w' := by
 have H : ((spec_isDigit.f a0).bind fun t107 => (if t107 = true then (some true) else (if 65 ≤ a0 then (if a0 ≤ 90 then (some true) else (if 97 ≤ a0 then (if a0 ≤ 122 then (some true) else (some (a0 == 45))) else (some (a0 == 45)))) else (if 97 ≤ a0 then (if a0 ≤ 122 then (some true) else (some (a0 == 45))) else (some (a0 == 45)))))) = some r := h
 clear h
 replace H := Option.bind_eq_some_iff.mp H
 obtain ⟨t107, A20, H⟩ := H
 replace H : (if t107 = true then (some true) else (if 65 ≤ a0 then (if a0 ≤ 90 then (some true) else (if 97 ≤ a0 then (if a0 ≤ 122 then (some true) else (some (a0 == 45))) else (some (a0 == 45)))) else (if 97 ≤ a0 then (if a0 ≤ 122 then (some true) else (some (a0 == 45))) else (some (a0 == 45))))) = some r := H
 have A2 := Aside0.mk A20
 clear A20
 by_cases c3 : t107 = true
 ·
  subst c3
  have H1 : (some true) = some r := by rw [if_pos rfl] at H; exact H
  clear H
  have H := H1
  clear H1
  obtain rfl := Option.some.inj H
  go_enter Tryd.func24, Tryd.ntmps24
  go_wp2_with (first | ((with_reducible refine gate_callee (f := 34) rfl ?_); refine goesL_ (some 4) rfl rfl Tryd.func34 (by kernel_rfl) rfl #[.int .u8 a0] rfl (by (try simp only [List.map_toArray, List.map_cons, List.map_nil]); first | done | rfl | (simp only [List.length_drop, List.length_take]; rfl)) ?_; (with_reducible refine (spec_isDigit.calls a0 true _ A2.out).mono ?_); rintro e w' ⟨rfl, ⟨nd, rfl⟩⟩; refine ⟨_, rfl, ?_⟩))
  go_ret
  exact ⟨by first | rfl | (simp; done) | (simp [*]; done) | (simp [bneNil]; done), by repeat (first | exact Drawn0.refl _ | apply Drawn0.step)⟩
 ·
  replace c3 := Bool.eq_false_iff.mpr c3
  subst c3
  have H1 : (if 65 ≤ a0 then (if a0 ≤ 90 then (some true) else (if 97 ≤ a0 then (if a0 ≤ 122 then (some true) else (some (a0 == 45))) else (some (a0 == 45)))) else (if 97 ≤ a0 then (if a0 ≤ 122 then (some true) else (some (a0 == 45))) else (some (a0 == 45)))) = some r := by rw [if_neg (show ¬ (false = true) by decide)] at H; exact H
  clear H
  have H := H1
  clear H1
  by_cases c4 : 65 ≤ a0
  ·
   rw [if_pos c4] at H
   have c4b0 : decide (65 ≤ a0) = true := decide_eq_true c4
   clear c4
   by_cases c5 : a0 ≤ 90
   ·
    rw [if_pos c5] at H
    have c5b0 : decide (a0 ≤ 90) = true := decide_eq_true c5
    clear c5
    obtain rfl := Option.some.inj H
    go_enter Tryd.func24, Tryd.ntmps24
    go_wp2_with (first | ((with_reducible refine gate_callee (f := 34) rfl ?_); refine goesL_ (some 4) rfl rfl Tryd.func34 (by kernel_rfl) rfl #[.int .u8 a0] rfl (by (try simp only [List.map_toArray, List.map_cons, List.map_nil]); first | done | rfl | (simp only [List.length_drop, List.length_take]; rfl)) ?_; (with_reducible refine (spec_isDigit.calls a0 false _ A2.out).mono ?_); rintro e w' ⟨rfl, ⟨nd, rfl⟩⟩; refine ⟨_, rfl, ?_⟩))
    go_ret
    exact ⟨by first | rfl | (simp; done) | (simp [*]; done) | (simp [bneNil]; done), by repeat (first | exact Drawn0.refl _ | apply Drawn0.step)⟩
   ·
    rw [if_neg c5] at H
    have c5b0 : decide (a0 ≤ 90) = false := decide_eq_false c5
    clear c5
    by_cases c6 : 97 ≤ a0
    ·
     rw [if_pos c6] at H
     have c6b0 : decide (97 ≤ a0) = true := decide_eq_true c6
     clear c6
     by_cases c7 : a0 ≤ 122
     ·
      rw [if_pos c7] at H
      have c7b0 : decide (a0 ≤ 122) = true := decide_eq_true c7
      clear c7
      obtain rfl := Option.some.inj H
      go_enter Tryd.func24, Tryd.ntmps24
      go_wp2_with (first | ((with_reducible refine gate_callee (f := 34) rfl ?_); refine goesL_ (some 4) rfl rfl Tryd.func34 (by kernel_rfl) rfl #[.int .u8 a0] rfl (by (try simp only [List.map_toArray, List.map_cons, List.map_nil]); first | done | rfl | (simp only [List.length_drop, List.length_take]; rfl)) ?_; (with_reducible refine (spec_isDigit.calls a0 false _ A2.out).mono ?_); rintro e w' ⟨rfl, ⟨nd, rfl⟩⟩; refine ⟨_, rfl, ?_⟩))
      go_ret
      exact ⟨by first | rfl | (simp; done) | (simp [*]; done) | (simp [bneNil]; done), by repeat (first | exact Drawn0.refl _ | apply Drawn0.step)⟩
     ·
      rw [if_neg c7] at H
      have c7b0 : decide (a0 ≤ 122) = false := decide_eq_false c7
      clear c7
      obtain rfl := Option.some.inj H
      go_enter Tryd.func24, Tryd.ntmps24
      go_wp2_with (first | ((with_reducible refine gate_callee (f := 34) rfl ?_); refine goesL_ (some 4) rfl rfl Tryd.func34 (by kernel_rfl) rfl #[.int .u8 a0] rfl (by (try simp only [List.map_toArray, List.map_cons, List.map_nil]); first | done | rfl | (simp only [List.length_drop, List.length_take]; rfl)) ?_; (with_reducible refine (spec_isDigit.calls a0 false _ A2.out).mono ?_); rintro e w' ⟨rfl, ⟨nd, rfl⟩⟩; refine ⟨_, rfl, ?_⟩))
      go_ret
      exact ⟨by first | rfl | (simp; done) | (simp [*]; done) | (simp [bneNil]; done), by repeat (first | exact Drawn0.refl _ | apply Drawn0.step)⟩
    ·
     rw [if_neg c6] at H
     have c6b0 : decide (97 ≤ a0) = false := decide_eq_false c6
     clear c6
     obtain rfl := Option.some.inj H
     go_enter Tryd.func24, Tryd.ntmps24
     go_wp2_with (first | ((with_reducible refine gate_callee (f := 34) rfl ?_); refine goesL_ (some 4) rfl rfl Tryd.func34 (by kernel_rfl) rfl #[.int .u8 a0] rfl (by (try simp only [List.map_toArray, List.map_cons, List.map_nil]); first | done | rfl | (simp only [List.length_drop, List.length_take]; rfl)) ?_; (with_reducible refine (spec_isDigit.calls a0 false _ A2.out).mono ?_); rintro e w' ⟨rfl, ⟨nd, rfl⟩⟩; refine ⟨_, rfl, ?_⟩))
     go_ret
     exact ⟨by first | rfl | (simp; done) | (simp [*]; done) | (simp [bneNil]; done), by repeat (first | exact Drawn0.refl _ | apply Drawn0.step)⟩
  ·
   rw [if_neg c4] at H
   have c4b0 : decide (65 ≤ a0) = false := decide_eq_false c4
   clear c4
   by_cases c8 : 97 ≤ a0
   ·
    rw [if_pos c8] at H
    have c8b0 : decide (97 ≤ a0) = true := decide_eq_true c8
    clear c8
    by_cases c9 : a0 ≤ 122
    ·
     rw [if_pos c9] at H
     have c9b0 : decide (a0 ≤ 122) = true := decide_eq_true c9
     clear c9
     obtain rfl := Option.some.inj H
     go_enter Tryd.func24, Tryd.ntmps24
     go_wp2_with (first | ((with_reducible refine gate_callee (f := 34) rfl ?_); refine goesL_ (some 4) rfl rfl Tryd.func34 (by kernel_rfl) rfl #[.int .u8 a0] rfl (by (try simp only [List.map_toArray, List.map_cons, List.map_nil]); first | done | rfl | (simp only [List.length_drop, List.length_take]; rfl)) ?_; (with_reducible refine (spec_isDigit.calls a0 false _ A2.out).mono ?_); rintro e w' ⟨rfl, ⟨nd, rfl⟩⟩; refine ⟨_, rfl, ?_⟩))
     go_ret
     exact ⟨by first | rfl | (simp; done) | (simp [*]; done) | (simp [bneNil]; done), by repeat (first | exact Drawn0.refl _ | apply Drawn0.step)⟩
    ·
     rw [if_neg c9] at H
     have c9b0 : decide (a0 ≤ 122) = false := decide_eq_false c9
     clear c9
     obtain rfl := Option.some.inj H
     go_enter Tryd.func24, Tryd.ntmps24
     go_wp2_with (first | ((with_reducible refine gate_callee (f := 34) rfl ?_); refine goesL_ (some 4) rfl rfl Tryd.func34 (by kernel_rfl) rfl #[.int .u8 a0] rfl (by (try simp only [List.map_toArray, List.map_cons, List.map_nil]); first | done | rfl | (simp only [List.length_drop, List.length_take]; rfl)) ?_; (with_reducible refine (spec_isDigit.calls a0 false _ A2.out).mono ?_); rintro e w' ⟨rfl, ⟨nd, rfl⟩⟩; refine ⟨_, rfl, ?_⟩))
     go_ret
     exact ⟨by first | rfl | (simp; done) | (simp [*]; done) | (simp [bneNil]; done), by repeat (first | exact Drawn0.refl _ | apply Drawn0.step)⟩
   ·
    rw [if_neg c8] at H
    have c8b0 : decide (97 ≤ a0) = false := decide_eq_false c8
    clear c8
    obtain rfl := Option.some.inj H
    go_enter Tryd.func24, Tryd.ntmps24
    go_wp2_with (first | ((with_reducible refine gate_callee (f := 34) rfl ?_); refine goesL_ (some 4) rfl rfl Tryd.func34 (by kernel_rfl) rfl #[.int .u8 a0] rfl (by (try simp only [List.map_toArray, List.map_cons, List.map_nil]); first | done | rfl | (simp only [List.length_drop, List.length_take]; rfl)) ?_; (with_reducible refine (spec_isDigit.calls a0 false _ A2.out).mono ?_); rintro e w' ⟨rfl, ⟨nd, rfl⟩⟩; refine ⟨_, rfl, ?_⟩))
    go_ret
    exact ⟨by first | rfl | (simp; done) | (simp [*]; done) | (simp [bneNil]; done), by repeat (first | exact Drawn0.refl _ | apply Drawn0.step)⟩

def spec_ValidIdent.l0 : Nat → ByteArray → Int → Option (Bool)
  | 0, _, _ => none
  | k + 1, x0, x3 => if x3 < (x0.size : Int) then (if 0 ≤ x3 then ((spec_isIdent.f (bt x0 x3)).bind fun t108 => (if t108 = true then (spec_ValidIdent.l0 k x0 (wrap64 (x3 + 1))) else (some false))) else (none)) else (some (x0.toList != ([] : List UInt8)))

def spec_ValidIdent.f (k : Nat) (a0 : ByteArray) : Option (Bool) := spec_ValidIdent.l0 k a0 0

set_option maxHeartbeats 80000000 in
set_option maxRecDepth 100000 in
theorem spec_ValidIdent.calls (k : Nat) (a0 : ByteArray) (r : Bool) (w : World) (h : spec_ValidIdent.f k a0 = some r) :
    Calls Tryd.prog 15 #[.string a0] w fun e w' => e = .returned (.bool r) ∧ Drawn0 w w' := by
  have H : (spec_ValidIdent.l0 k a0 0) = some r := h
  clear h
  have H' := Aside0.mk H
  clear H
  go_enter Tryd.func15, Tryd.ntmps15
  go_wp2
  go_loopg [3] k (fun kq v3 w' => ∃ (x3_1 : Int), v3 = .int .i64 x3_1 ∧ Aside0 (spec_ValidIdent.l0 kq a0 x3_1 = some r) ∧ Aside0 (kq ≤ k) ∧ Drawn0 w w')
  case atStart => exact ⟨(0), (by first | rfl | (simp; done) | (simp [*]; done)), H', ⟨Nat.le_refl _⟩, by repeat (first | exact Drawn0.refl _ | apply Drawn0.step)⟩
  case round =>
    clear H'
    try clear c1
    obtain ⟨x3_1, rfl, HA, HK1, ⟨m1, rfl⟩⟩ := hrel
    cases gk with
    | zero => exact absurd HA.out (by simp [spec_ValidIdent.l0])
    | succ k1 =>
      have H := HA.out
      clear HA
      simp only [spec_ValidIdent.l0] at H
      by_cases c2 : x3_1 < (a0.size : Int)
      · rw [if_pos c2] at H
        have c2b0 : decide (x3_1 < (a0.size : Int)) = true := decide_eq_true c2
        clear c2
        by_cases c3 : 0 ≤ x3_1
        · rw [if_pos c3] at H
          have c3b0 : decide (0 ≤ x3_1) = true := decide_eq_true c3
          clear c3
          replace H := Option.bind_eq_some_iff.mp H
          obtain ⟨t108, A50, H⟩ := H
          replace H : (if t108 = true then (spec_ValidIdent.l0 k1 a0 (wrap64 (x3_1 + 1))) else (some false)) = some r := H
          have A5 := Aside0.mk A50
          clear A50
          by_cases c6 : t108 = true
          · subst c6
            have H1 : (spec_ValidIdent.l0 k1 a0 (wrap64 (x3_1 + 1))) = some r := by rw [if_pos rfl] at H; exact H
            clear H
            have H := H1
            clear H1
            have H' := Aside0.mk H
            clear H
            have p4 : 0 ≤ (x3_1 : Int) := of_decide_eq_true (by first | (with_reducible assumption) | assumption)
            have q4 : x3_1 < (a0.size : Int) := of_decide_eq_true (by first | (with_reducible assumption) | assumption)
            have hx4 := bt_at a0 x3_1
            replace p4 := eq_true p4
            replace q4 := eq_true q4
            go_wp2_with (first | ((with_reducible refine gate_callee (f := 24) rfl ?_); refine goesL_ (some 13) rfl rfl Tryd.func24 (by kernel_rfl) rfl #[.int .u8 (bt a0 x3_1)] rfl (by (try simp only [List.map_toArray, List.map_cons, List.map_nil]); first | done | rfl | (simp only [List.length_drop, List.length_take]; rfl)) ?_; (with_reducible refine (spec_isIdent.calls (bt a0 x3_1) true _ A5.out).mono ?_); rintro e w' ⟨rfl, ⟨nd, rfl⟩⟩; refine ⟨_, rfl, ?_⟩))
            go_roundg k1
            case measure => have := HK1.out; omega
            case rel => exact ⟨(wrap64 (x3_1 + 1)), (by first | rfl | (simp; done) | (simp [*]; done)), H', ⟨by have := HK1.out; omega⟩, by repeat (first | exact Drawn0.refl _ | apply Drawn0.step)⟩
          · replace c6 := Bool.eq_false_iff.mpr c6
            subst c6
            have H1 : (some false) = some r := by rw [if_neg (show ¬ (false = true) by decide)] at H; exact H
            clear H
            have H := H1
            clear H1
            obtain rfl := Option.some.inj H
            have p4 : 0 ≤ (x3_1 : Int) := of_decide_eq_true (by first | (with_reducible assumption) | assumption)
            have q4 : x3_1 < (a0.size : Int) := of_decide_eq_true (by first | (with_reducible assumption) | assumption)
            have hx4 := bt_at a0 x3_1
            replace p4 := eq_true p4
            replace q4 := eq_true q4
            go_wp2_with (first | ((with_reducible refine gate_callee (f := 24) rfl ?_); refine goesL_ (some 13) rfl rfl Tryd.func24 (by kernel_rfl) rfl #[.int .u8 (bt a0 x3_1)] rfl (by (try simp only [List.map_toArray, List.map_cons, List.map_nil]); first | done | rfl | (simp only [List.length_drop, List.length_take]; rfl)) ?_; (with_reducible refine (spec_isIdent.calls (bt a0 x3_1) false _ A5.out).mono ?_); rintro e w' ⟨rfl, ⟨nd, rfl⟩⟩; refine ⟨_, rfl, ?_⟩))
            go_ret
            exact ⟨by first | rfl | (simp; done) | (simp [*]; done) | (simp [bneNil]; done), by repeat (first | exact Drawn0.refl _ | apply Drawn0.step)⟩
        · rw [if_neg c3] at H
          exact absurd H (by simp)
      · rw [if_neg c2] at H
        have c2b0 : decide (x3_1 < (a0.size : Int)) = false := decide_eq_false c2
        clear c2
        obtain rfl := Option.some.inj H
        go_wp2
        go_ret
        exact ⟨by first | rfl | (simp; done) | (simp [*]; done) | (simp [bneNil]; done), by repeat (first | exact Drawn0.refl _ | apply Drawn0.step)⟩

def spec_ValidMeta.l0 : Nat → List ByteArray → Int → Int → Option (Bool)
  | 0, _, _, _ => none
  | k + 1, x6, x7, x8 => if x8 < x7 then (if 0 ≤ x8 then (if x8 < (x6.length : Int) then ((spec_ValidIdent.f k (rdOf ByteArray.empty x6 x8)).bind fun t113 => (if t113 = true then (spec_ValidMeta.l0 k x6 x7 (wrap64 (x8 + 1))) else (some false))) else (none)) else (none)) else (some true)

def spec_ValidMeta.f (k : Nat) (a0 : ByteArray) : Option (Bool) := (spec_Identifiers.f k a0).bind fun t109 => (spec_ValidMeta.l0 k t109 (t109.length : Int) 0)

set_option maxHeartbeats 80000000 in
set_option maxRecDepth 100000 in
theorem spec_ValidMeta.calls (k : Nat) (a0 : ByteArray) (r : Bool) (w : World) (h : spec_ValidMeta.f k a0 = some r) :
  Calls Tryd.prog 6 #[.string a0] w fun e w' => e = .returned (.bool r) ∧ Below w.heap.size w w' := by
 have HB := Aside0.mk (Below.refl w.heap.size w)
 have H : ((spec_Identifiers.f k a0).bind fun t109 => (spec_ValidMeta.l0 k t109 (t109.length : Int) 0)) = some r := h
 clear h
 replace H := Option.bind_eq_some_iff.mp H
 obtain ⟨t109, A20, H⟩ := H
 replace H : (spec_ValidMeta.l0 k t109 (t109.length : Int) 0) = some r := H
 have A2 := Aside0.mk A20
 clear A20
 have H' := Aside0.mk H
 clear H
 go_enter Tryd.func6, Tryd.ntmps6
 go_wp2_with (first | ((with_reducible refine gate_callee (f := 14) rfl ?_); refine goesL_ (some 6) rfl rfl Tryd.func14 (by kernel_rfl) rfl #[.string a0] rfl (by (try simp only [List.map_toArray, List.map_cons, List.map_nil]); first | done | rfl | (simp only [List.length_drop, List.length_take]; rfl)) ?_; (with_reducible refine (spec_Identifiers.calls k a0 t109 _ A2.out).mono ?_); rintro e w3 ⟨v110, rfl, ho0, hb⟩; refine ⟨_, rfl, ?_⟩; have n0_ := Aside0.mk (Kd.R_lower ho0 (below_size (by repeat (first | (with_reducible first | exact HB.out | apply below_alloc | apply pw_below_drewN | apply below_drew1) | exact HB.out)))); have n1_ := Aside0.mk (below_step (by repeat (first | (with_reducible first | exact HB.out | apply below_alloc | apply pw_below_drewN | apply below_drew1) | exact HB.out)) hb); clear HB; have HO111 := n0_; have HB := n1_; clear n0_ n1_; (try clear hb); (try clear hb2); (try clear hk); (try clear hi); (try clear ho0); obtain ⟨Ao4, co4, eo4⟩ := Kd.R_slice HO111.out; subst eo4))
 go_loopg [8] k (fun kq v8 w' => ∃ (x8_1 : Int), v8 = .int .i64 x8_1 ∧ Aside0 (spec_ValidMeta.l0 kq t109 (t109.length : Int) x8_1 = some r) ∧ Aside0 (kq ≤ k) ∧ Aside0 (Kd.R Kd.string 9 w' w.heap.size (fun _ => True) (.slice Ao4 t109.length co4) t109) ∧ Aside0 (Below w.heap.size w w'))
 case atStart => exact ⟨(0), (by first | rfl | (simp; done) | (simp [*]; done)), H', ⟨Nat.le_refl _⟩, ⟨by (with_reducible repeat (first | apply Kd.R_alloc | apply Kd.R_drewN | apply Kd.R_drew)); exact HO111.out⟩, ⟨by repeat (first | (with_reducible first | exact HB.out | apply below_alloc | apply pw_below_drewN | apply below_drew1) | exact HB.out)⟩⟩
 case round =>
  clear H'
  try clear c1
  try clear p2
  obtain ⟨x8_1, rfl, HA, HK1, HO_6, HB⟩ := hrel
  cases gk with
  | zero => exact absurd HA.out (by simp [spec_ValidMeta.l0])
  | succ k1 =>
   have H := HA.out
   clear HA
   simp only [spec_ValidMeta.l0] at H
   by_cases c5 : x8_1 < (t109.length : Int)
   ·
    rw [if_pos c5] at H
    have c5b0 : decide (x8_1 < (t109.length : Int)) = true := decide_eq_true c5
    clear c5
    by_cases c6 : 0 ≤ x8_1
    ·
     rw [if_pos c6] at H
     have c6b0 : decide (0 ≤ x8_1) = true := decide_eq_true c6
     clear c6
     by_cases c7 : x8_1 < (t109.length : Int)
     ·
      rw [if_pos c7] at H
      have c7b0 : decide (x8_1 < (t109.length : Int)) = true := decide_eq_true c7
      clear c7
      replace H := Option.bind_eq_some_iff.mp H
      obtain ⟨t113, A80, H⟩ := H
      replace H : (if t113 = true then (spec_ValidMeta.l0 k1 t109 (t109.length : Int) (wrap64 (x8_1 + 1))) else (some false)) = some r := H
      have A8 := Aside0.mk A80
      clear A80
      by_cases c9 : t113 = true
      ·
       subst c9
       have H1 : (spec_ValidMeta.l0 k1 t109 (t109.length : Int) (wrap64 (x8_1 + 1))) = some r := by rw [if_pos rfl] at H; exact H
       clear H
       have H := H1
       clear H1
       have H' := Aside0.mk H
       clear H
       have p112 : 0 ≤ (x8_1 : Int) := of_decide_eq_true (by first | (with_reducible assumption) | assumption)
       have q112 : x8_1 < (t109.length : Int) := of_decide_eq_true (by first | (with_reducible assumption) | assumption)
       obtain ⟨ad112, e112, hx112_0⟩ := Kd.at_string (Kd.R_reads' HO_6.out).2.2 x8_1 p112 q112
       cases e112
       replace p112 := eq_true p112
       replace q112 := eq_true q112
       go_wp2_with (first | ((with_reducible refine gate_callee (f := 15) rfl ?_); refine goesL_ (some 13) rfl rfl Tryd.func15 (by kernel_rfl) rfl #[.string (rdOf ByteArray.empty t109 x8_1)] rfl (by (try simp only [List.map_toArray, List.map_cons, List.map_nil]); first | done | rfl | (simp only [List.length_drop, List.length_take]; rfl)) ?_; (with_reducible refine (spec_ValidIdent.calls k1 (rdOf ByteArray.empty t109 x8_1) true _ A8.out).mono ?_); rintro e w' ⟨rfl, ⟨nd, rfl⟩⟩; refine ⟨_, rfl, ?_⟩))
       go_roundg k1
       case measure => have := HK1.out; omega
       case rel => exact ⟨(wrap64 (x8_1 + 1)), (by first | rfl | (simp; done) | (simp [*]; done)), H', ⟨by have := HK1.out; omega⟩, ⟨by (with_reducible repeat (first | apply Kd.R_alloc | apply Kd.R_drewN | apply Kd.R_drew)); exact HO_6.out⟩, ⟨by repeat (first | (with_reducible first | exact HB.out | apply below_alloc | apply pw_below_drewN | apply below_drew1) | exact HB.out)⟩⟩
      ·
       replace c9 := Bool.eq_false_iff.mpr c9
       subst c9
       have H1 : (some false) = some r := by rw [if_neg (show ¬ (false = true) by decide)] at H; exact H
       clear H
       have H := H1
       clear H1
       obtain rfl := Option.some.inj H
       have p112 : 0 ≤ (x8_1 : Int) := of_decide_eq_true (by first | (with_reducible assumption) | assumption)
       have q112 : x8_1 < (t109.length : Int) := of_decide_eq_true (by first | (with_reducible assumption) | assumption)
       obtain ⟨ad112, e112, hx112_0⟩ := Kd.at_string (Kd.R_reads' HO_6.out).2.2 x8_1 p112 q112
       cases e112
       replace p112 := eq_true p112
       replace q112 := eq_true q112
       go_wp2_with (first | ((with_reducible refine gate_callee (f := 15) rfl ?_); refine goesL_ (some 13) rfl rfl Tryd.func15 (by kernel_rfl) rfl #[.string (rdOf ByteArray.empty t109 x8_1)] rfl (by (try simp only [List.map_toArray, List.map_cons, List.map_nil]); first | done | rfl | (simp only [List.length_drop, List.length_take]; rfl)) ?_; (with_reducible refine (spec_ValidIdent.calls k1 (rdOf ByteArray.empty t109 x8_1) false _ A8.out).mono ?_); rintro e w' ⟨rfl, ⟨nd, rfl⟩⟩; refine ⟨_, rfl, ?_⟩))
       go_ret
       exact ⟨by first | rfl | (simp [errW_none, errW_some] <;> rfl) | (simp [*, errW_none, errW_some] <;> rfl) | (simp [bneNil]; done), by repeat (first | (with_reducible first | exact HB.out | apply below_alloc | apply pw_below_drewN | apply below_drew1) | exact HB.out)⟩
     ·
      rw [if_neg c7] at H
      exact absurd H (by simp)
    ·
     rw [if_neg c6] at H
     exact absurd H (by simp)
   ·
    rw [if_neg c5] at H
    have c5b0 : decide (x8_1 < (t109.length : Int)) = false := decide_eq_false c5
    clear c5
    obtain rfl := Option.some.inj H
    go_wp2
    go_ret
    exact ⟨by first | rfl | (simp [errW_none, errW_some] <;> rfl) | (simp [*, errW_none, errW_some] <;> rfl) | (simp [bneNil]; done), by repeat (first | (with_reducible first | exact HB.out | apply below_alloc | apply pw_below_drewN | apply below_drew1) | exact HB.out)⟩

def semver_zzIndex.l0 : Nat → ByteArray → ByteArray → Int → Option (Int)
  | 0, _, _, _ => none
  | k + 1, x0, x1, x5 => if (wrap64 (x5 + (x1.size : Int))) ≤ (x0.size : Int) then (if 0 ≤ x5 then (if x5 ≤ (wrap64 (x5 + (x1.size : Int))) then (if (x0.extract (x5 : Int).toNat ((wrap64 (x5 + (x1.size : Int))) : Int).toNat).toList = x1.toList then (some x5) else (semver_zzIndex.l0 k x0 x1 (wrap64 (x5 + 1)))) else (none)) else (none)) else (some (-1))

def semver_zzIndex.f (k : Nat) (a0 : ByteArray) (a1 : ByteArray) : Option (Int) := semver_zzIndex.l0 k a0 a1 0

set_option maxHeartbeats 80000000 in
set_option maxRecDepth 100000 in
theorem semver_zzIndex.calls (k : Nat) (a0 : ByteArray) (a1 : ByteArray) (r : Int) (w : World) (h : semver_zzIndex.f k a0 a1 = some r) :
    Calls Tryd.prog 25 #[.string a0, .string a1] w fun e w' => e = .returned (.int .i64 r) ∧ Drawn0 w w' := by
  have H : (semver_zzIndex.l0 k a0 a1 0) = some r := h
  clear h
  have H' := Aside0.mk H
  clear H
  go_enter Tryd.func25, Tryd.ntmps25
  go_wp2
  go_loopg [5] k (fun kq v5 w' => ∃ (x5_1 : Int), v5 = .int .i64 x5_1 ∧ Aside0 (semver_zzIndex.l0 kq a0 a1 x5_1 = some r) ∧ Aside0 (kq ≤ k) ∧ Drawn0 w w')
  case atStart => exact ⟨(0), (by first | rfl | (simp; done) | (simp [*]; done)), H', ⟨Nat.le_refl _⟩, by repeat (first | exact Drawn0.refl _ | apply Drawn0.step)⟩
  case round =>
    clear H'
    try clear c2
    try clear p2
    obtain ⟨x5_1, rfl, HA, HK1, ⟨m1, rfl⟩⟩ := hrel
    cases gk with
    | zero => exact absurd HA.out (by simp [semver_zzIndex.l0])
    | succ k1 =>
      have H := HA.out
      clear HA
      simp only [semver_zzIndex.l0] at H
      by_cases c3 : (wrap64 (x5_1 + (a1.size : Int))) ≤ (a0.size : Int)
      · rw [if_pos c3] at H
        have c3b0 : decide ((wrap64 (x5_1 + (a1.size : Int))) ≤ (a0.size : Int)) = true := decide_eq_true c3
        clear c3
        by_cases c4 : 0 ≤ x5_1
        · rw [if_pos c4] at H
          have c4b0 := eq_true c4
          have c4b1 : decide (0 ≤ x5_1) = true := decide_eq_true c4
          clear c4
          by_cases c5 : x5_1 ≤ (wrap64 (x5_1 + (a1.size : Int)))
          · rw [if_pos c5] at H
            have c5b0 := eq_true c5
            have c5b1 : decide (x5_1 ≤ (wrap64 (x5_1 + (a1.size : Int)))) = true := decide_eq_true c5
            have c6b0 := eq_true (of_decide_eq_true (by first | (with_reducible assumption) | assumption) : (wrap64 (x5_1 + (a1.size : Int))) ≤ (a0.size : Int))
            by_cases c7 : (a0.extract (x5_1 : Int).toNat ((wrap64 (x5_1 + (a1.size : Int))) : Int).toNat).toList = a1.toList
            · rw [if_pos c7] at H
              have c7b0 : ((a0.extract (x5_1 : Int).toNat ((wrap64 (x5_1 + (a1.size : Int))) : Int).toNat).toList == a1.toList) = true := beq_iff_eq.mpr c7
              have c7b1 : ((a0.extract (x5_1 : Int).toNat ((wrap64 (x5_1 + (a1.size : Int))) : Int).toNat).toList != a1.toList) = false := bne_eq_false_iff_eq.mpr c7
              clear c7
              obtain rfl := Option.some.inj H
              go_wp2
              go_ret
              exact ⟨by first | rfl | (simp; done) | (simp [*]; done) | (simp [bneNil]; done), by repeat (first | exact Drawn0.refl _ | apply Drawn0.step)⟩
            · rw [if_neg c7] at H
              have c7b0 : ((a0.extract (x5_1 : Int).toNat ((wrap64 (x5_1 + (a1.size : Int))) : Int).toNat).toList == a1.toList) = false := beq_eq_false_iff_ne.mpr c7
              have c7b1 : ((a0.extract (x5_1 : Int).toNat ((wrap64 (x5_1 + (a1.size : Int))) : Int).toNat).toList != a1.toList) = true := bne_iff_ne.mpr c7
              have H' := Aside0.mk H
              clear H
              go_wp2
              go_roundg k1
              case measure => have := HK1.out; omega
              case rel => exact ⟨(wrap64 (x5_1 + 1)), (by first | rfl | (simp; done) | (simp [*]; done)), H', ⟨by have := HK1.out; omega⟩, by repeat (first | exact Drawn0.refl _ | apply Drawn0.step)⟩
          · rw [if_neg c5] at H
            exact absurd H (by simp)
        · rw [if_neg c4] at H
          exact absurd H (by simp)
      · rw [if_neg c3] at H
        have c3b0 : decide ((wrap64 (x5_1 + (a1.size : Int))) ≤ (a0.size : Int)) = false := decide_eq_false c3
        clear c3
        obtain rfl := Option.some.inj H
        go_wp2
        go_ret
        exact ⟨by first | rfl | (simp; done) | (simp [*]; done) | (simp [bneNil]; done), by repeat (first | exact Drawn0.refl _ | apply Drawn0.step)⟩

def semver_zzSplit.l0 : Nat → ByteArray → ByteArray → List ByteArray → Option (List ByteArray)
  | 0, _, _, _ => none
  | k + 1, x0, x1, x5 => (semver_zzIndex.f k x0 x1).bind fun t121 => (if t121 < 0 then (if x5.length < 8796093022208 then (some (x5 ++ [x0])) else (none)) else (if 0 ≤ t121 then (if t121 ≤ (x0.size : Int) then (if x5.length < 8796093022208 then (if 0 ≤ (wrap64 (t121 + (x1.size : Int))) then (if (wrap64 (t121 + (x1.size : Int))) ≤ (x0.size : Int) then (semver_zzSplit.l0 k (x0.extract ((wrap64 (t121 + (x1.size : Int))) : Int).toNat x0.size) x1 (x5 ++ [x0.extract 0 (t121 : Int).toNat])) else (none)) else (none)) else (none)) else (none)) else (none)))

def semver_zzSplit.f (k : Nat) (a0 : ByteArray) (a1 : ByteArray) : Option (List ByteArray) := semver_zzSplit.l0 k a0 a1 ([] : List ByteArray)

set_option maxHeartbeats 80000000 in
set_option maxRecDepth 100000 in
theorem semver_zzSplit.calls (k : Nat) (a0 : ByteArray) (a1 : ByteArray) (r : List ByteArray) (w : World) (h : semver_zzSplit.f k a0 a1 = some r) :
  Calls Tryd.prog 26 #[.string a0, .string a1] w fun e w' => ∃ v0_ : Value, e = .returned (v0_) ∧ Kd.R Kd.string 9 w' w.heap.size (fun _ => True) v0_ r ∧ Below w.heap.size w w' := by
 have HB := Aside0.mk (Below.refl w.heap.size w)
 have H : (semver_zzSplit.l0 k a0 a1 ([] : List ByteArray)) = some r := h
 clear h
 have H' := Aside0.mk H
 clear H
 go_enter Tryd.func26, Tryd.ntmps26
 go_wp2
 go_loopg [0, 5] k (fun kq v0 v5 w' => ∃ (x0_1 : ByteArray) (x5_1 : List ByteArray), v0 = .string x0_1 ∧ Aside0 (semver_zzSplit.l0 kq x0_1 a1 x5_1 = some r) ∧ Aside0 (kq ≤ k) ∧ Aside0 (Kd.R Kd.string 9 w' w.heap.size (fun _ => True) v5 x5_1) ∧ Aside0 (Below w.heap.size w w'))
 case atStart => exact ⟨(a0), (([] : List ByteArray)), (by first | rfl | (simp; done) | (simp [*]; done)), H', ⟨Nat.le_refl _⟩, ⟨by first | exact Kd.R_nil _ _ _ _ _ | exact Kd.N_nil _ _ _ _ _ | exact Kd.V_nil _ _ _ _ _ | exact Kd.Q_nil _ _ _ _ _ | exact Kd.S_nil _ _ _ _ _⟩, ⟨by repeat (first | (with_reducible first | exact HB.out | apply below_alloc | apply pw_below_drewN | apply below_drew1) | exact HB.out)⟩⟩
 case round =>
  clear H'
  try clear c2
  try clear p2
  obtain ⟨x0_1, x5_1, rfl, HA, HK1, HO_5, HB⟩ := hrel
  cases gk with
  | zero => exact absurd HA.out (by simp [semver_zzSplit.l0])
  | succ k1 =>
   have H := HA.out
   clear HA
   simp only [semver_zzSplit.l0] at H
   replace H := Option.bind_eq_some_iff.mp H
   obtain ⟨t121, A30, H⟩ := H
   replace H : (if t121 < 0 then (if x5_1.length < 8796093022208 then (some (x5_1 ++ [x0_1])) else (none)) else (if 0 ≤ t121 then (if t121 ≤ (x0_1.size : Int) then (if x5_1.length < 8796093022208 then (if 0 ≤ (wrap64 (t121 + (a1.size : Int))) then (if (wrap64 (t121 + (a1.size : Int))) ≤ (x0_1.size : Int) then (semver_zzSplit.l0 k1 (x0_1.extract ((wrap64 (t121 + (a1.size : Int))) : Int).toNat x0_1.size) a1 (x5_1 ++ [x0_1.extract 0 (t121 : Int).toNat])) else (none)) else (none)) else (none)) else (none)) else (none))) = some r := H
   have A3 := Aside0.mk A30
   clear A30
   by_cases c4 : t121 < 0
   ·
    rw [if_pos c4] at H
    have c4b0 : decide (t121 < 0) = true := decide_eq_true c4
    clear c4
    by_cases c5 : x5_1.length < 8796093022208
    ·
     rw [if_pos c5] at H
     have LMc5 := Aside0.mk c5
     clear c5
     obtain ⟨y122, hy122⟩ : ∃ y_ : List ByteArray, y_ = (x5_1 ++ [x0_1]) := ⟨_, rfl⟩
     replace H : (some y122) = some r := by first | (rw [hy122]; with_reducible exact H) | (have H2_ := (Option.bind_some _ _).symm.trans H; rw [hy122]; with_reducible exact H2_) | (have H2_ := (Option.bind_some _ _).symm.trans H; with_reducible exact H2_) | with_reducible exact H | (rw [hy122]; exact H) | exact H
     have Ny122 := Aside0.mk hy122
     clear hy122
     obtain rfl := Option.some.inj H
     go_wp2_with (first | ((with_reducible refine gate_callee (f := 25) rfl ?_); refine goesL_ (some 9) rfl rfl Tryd.func25 (by kernel_rfl) rfl #[.string x0_1, .string a1] rfl (by (try simp only [List.map_toArray, List.map_cons, List.map_nil]); first | done | rfl | (simp only [List.length_drop, List.length_take]; rfl)) ?_; (with_reducible refine (semver_zzIndex.calls k1 x0_1 a1 t121 _ A3.out).mono ?_); rintro e w' ⟨rfl, ⟨nd, rfl⟩⟩; refine ⟨_, rfl, ?_⟩) | ((with_reducible refine gate_builtin (b := .append) (xs := #[.tmp 12, .tmp 14]) rfl ?_); at_builtin; refine Kd.R_append Kd.string (w0 := w) w.heap.size rfl (.tmp 12) (.tmp 14) 39 9 (.string ⟨#[]⟩) 16 rfl Tryd.underlying39 info9 rfl (by decide) (by omega) u5 x5_1 x0_1 [.string x0_1] (fun _ => True) (fun _ => False) rfl rfl ?aP (fun _ hk => hk.elim) ?aF ?aO ?aB ?aS ?aL ?_; (case aP => exact rfl); (case aB => exact (by repeat (first | (with_reducible first | exact HB.out | apply below_alloc | apply pw_below_drewN | apply below_drew1) | exact HB.out))); (case aF => exact (fun _ _ => trivial)); (case aO => exact (by (with_reducible repeat (first | apply Kd.R_alloc | apply Kd.R_drewN | apply Kd.R_drew)); exact HO_5.out)); (case aS => exact (below_size (by repeat (first | (with_reducible first | exact HB.out | apply below_alloc | apply pw_below_drewN | apply below_drew1) | exact HB.out)))); (case aL => have := LMc5.out; omega); intro v123 w6 ho hb hg hat; rw [← Ny122.out] at ho; have n0_ := Aside0.mk (hb); have n1_ := Aside0.mk (ho); clear HB; clear HO_5; have HB := n0_; have HO124 := n1_; clear n0_ n1_; clear ho hb hg hat))
     go_ret
     exact ⟨_, by first | rfl | (simp [errW_none, errW_some] <;> rfl) | (simp [*, errW_none, errW_some] <;> rfl), by (with_reducible repeat (first | apply Kd.R_alloc | apply Kd.R_drewN | apply Kd.R_drew)); exact HO124.out, by repeat (first | (with_reducible first | exact HB.out | apply below_alloc | apply pw_below_drewN | apply below_drew1) | exact HB.out)⟩
    ·
     rw [if_neg c5] at H
     exact absurd H (by simp)
   ·
    rw [if_neg c4] at H
    have c4b0 : decide (t121 < 0) = false := decide_eq_false c4
    clear c4
    by_cases c7 : 0 ≤ t121
    ·
     rw [if_pos c7] at H
     have c7b0 := eq_true c7
     have c7b1 : decide (0 ≤ t121) = true := decide_eq_true c7
     clear c7
     by_cases c8 : t121 ≤ (x0_1.size : Int)
     ·
      rw [if_pos c8] at H
      have c8b0 := eq_true c8
      have c8b1 : decide (t121 ≤ (x0_1.size : Int)) = true := decide_eq_true c8
      clear c8
      by_cases c9 : x5_1.length < 8796093022208
      ·
       rw [if_pos c9] at H
       have LMc9 := Aside0.mk c9
       clear c9
       obtain ⟨y125, hy125⟩ : ∃ y_ : List ByteArray, y_ = (x5_1 ++ [x0_1.extract 0 (t121 : Int).toNat]) := ⟨_, rfl⟩
       replace H : (if 0 ≤ (wrap64 (t121 + (a1.size : Int))) then (if (wrap64 (t121 + (a1.size : Int))) ≤ (x0_1.size : Int) then (semver_zzSplit.l0 k1 (x0_1.extract ((wrap64 (t121 + (a1.size : Int))) : Int).toNat x0_1.size) a1 y125) else (none)) else (none)) = some r := by first | (rw [hy125]; with_reducible exact H) | (have H2_ := (Option.bind_some _ _).symm.trans H; rw [hy125]; with_reducible exact H2_) | (have H2_ := (Option.bind_some _ _).symm.trans H; with_reducible exact H2_) | with_reducible exact H | (rw [hy125]; exact H) | exact H
       have Ny125 := Aside0.mk hy125
       clear hy125
       obtain ⟨ji10, hji10⟩ : ∃ j_ : Int, (wrap64 (t121 + (a1.size : Int))) = j_ := ⟨_, rfl⟩
       replace H : (if 0 ≤ (ji10) then (if (ji10) ≤ (x0_1.size : Int) then (semver_zzSplit.l0 k1 (x0_1.extract ((ji10) : Int).toNat x0_1.size) a1 y125) else (none)) else (none)) = some r := by first | (rw [hji10] at H; exact H) | (simp only [hji10] at H ⊢; exact H)
       (try rw [hji10] at A3)
       have hji10w : (IntKind.i64.wrap (t121 + (a1.size : Int))) = ji10 := (i64_w _).trans hji10
       by_cases c11 : 0 ≤ (ji10)
       ·
        rw [if_pos c11] at H
        have c11b0 := eq_true c11
        have c11b1 : decide (0 ≤ (ji10)) = true := decide_eq_true c11
        clear c11
        by_cases c12 : (ji10) ≤ (x0_1.size : Int)
        ·
         rw [if_pos c12] at H
         have c12b0 := eq_true c12
         have c12b1 : decide ((ji10) ≤ (x0_1.size : Int)) = true := decide_eq_true c12
         clear c12
         have H' := Aside0.mk H
         clear H
         go_wp2_with (first | ((with_reducible refine gate_callee (f := 25) rfl ?_); refine goesL_ (some 9) rfl rfl Tryd.func25 (by kernel_rfl) rfl #[.string x0_1, .string a1] rfl (by (try simp only [List.map_toArray, List.map_cons, List.map_nil]); first | done | rfl | (simp only [List.length_drop, List.length_take]; rfl)) ?_; (with_reducible refine (semver_zzIndex.calls k1 x0_1 a1 t121 _ A3.out).mono ?_); rintro e w' ⟨rfl, ⟨nd, rfl⟩⟩; refine ⟨_, rfl, ?_⟩) | ((with_reducible refine gate_builtin (b := .append) (xs := #[.tmp 16, .tmp 20]) rfl ?_); at_builtin; refine Kd.R_append Kd.string (w0 := w) w.heap.size rfl (.tmp 16) (.tmp 20) 39 9 (.string ⟨#[]⟩) 16 rfl Tryd.underlying39 info9 rfl (by decide) (by omega) u5 x5_1 (x0_1.extract 0 (t121 : Int).toNat) [.string (x0_1.extract 0 (t121 : Int).toNat)] (fun _ => True) (fun _ => False) rfl rfl ?aP (fun _ hk => hk.elim) ?aF ?aO ?aB ?aS ?aL ?_; (case aP => exact rfl); (case aB => exact (by repeat (first | (with_reducible first | exact HB.out | apply below_alloc | apply pw_below_drewN | apply below_drew1) | exact HB.out))); (case aF => exact (fun _ _ => trivial)); (case aO => exact (by (with_reducible repeat (first | apply Kd.R_alloc | apply Kd.R_drewN | apply Kd.R_drew)); exact HO_5.out)); (case aS => exact (below_size (by repeat (first | (with_reducible first | exact HB.out | apply below_alloc | apply pw_below_drewN | apply below_drew1) | exact HB.out)))); (case aL => have := LMc9.out; omega); intro v126 w13 ho hb hg hat; rw [← Ny125.out] at ho; have n0_ := Aside0.mk (hb); have n1_ := Aside0.mk (ho); clear HB; clear HO_5; have HB := n0_; have HO127 := n1_; clear n0_ n1_; clear ho hb hg hat))
         go_roundg k1
         case measure => have := HK1.out; omega
         case rel => exact ⟨(x0_1.extract ((ji10) : Int).toNat x0_1.size), (y125), (by first | rfl | (simp; done) | (simp only [← hji10] <;> (first | rfl | simp)) | (simp [*]; done)), H', ⟨by have := HK1.out; omega⟩, ⟨by (with_reducible repeat (first | apply Kd.R_alloc | apply Kd.R_drewN | apply Kd.R_drew)); exact HO127.out⟩, ⟨by repeat (first | (with_reducible first | exact HB.out | apply below_alloc | apply pw_below_drewN | apply below_drew1) | exact HB.out)⟩⟩
        ·
         rw [if_neg c12] at H
         exact absurd H (by simp)
       ·
        rw [if_neg c11] at H
        exact absurd H (by simp)
      ·
       rw [if_neg c9] at H
       exact absurd H (by simp)
     ·
      rw [if_neg c8] at H
      exact absurd H (by simp)
    ·
     rw [if_neg c7] at H
     exact absurd H (by simp)

def semver_zzSplitN.l0 : Nat → ByteArray → ByteArray → Int → List ByteArray → Option (List ByteArray)
  | 0, _, _, _, _ => none
  | k + 1, x0, x1, x2, x7 => if (x7.length : Int) < (wrap64 (x2 - 1)) then ((semver_zzIndex.f k x0 x1).bind fun t128 => (if t128 < 0 then (if x7.length < 8796093022208 then (some (x7 ++ [x0])) else (none)) else (if 0 ≤ t128 then (if t128 ≤ (x0.size : Int) then (if x7.length < 8796093022208 then (if 0 ≤ (wrap64 (t128 + (x1.size : Int))) then (if (wrap64 (t128 + (x1.size : Int))) ≤ (x0.size : Int) then (semver_zzSplitN.l0 k (x0.extract ((wrap64 (t128 + (x1.size : Int))) : Int).toNat x0.size) x1 x2 (x7 ++ [x0.extract 0 (t128 : Int).toNat])) else (none)) else (none)) else (none)) else (none)) else (none)))) else (if x7.length < 8796093022208 then (some (x7 ++ [x0])) else (none))

def semver_zzSplitN.f (k : Nat) (a0 : ByteArray) (a1 : ByteArray) (a2 : Int) : Option (List ByteArray) := semver_zzSplitN.l0 k a0 a1 a2 ([] : List ByteArray)

set_option maxHeartbeats 80000000 in
set_option maxRecDepth 100000 in
theorem semver_zzSplitN.calls (k : Nat) (a0 : ByteArray) (a1 : ByteArray) (a2 : Int) (r : List ByteArray) (w : World) (h : semver_zzSplitN.f k a0 a1 a2 = some r) :
  Calls Tryd.prog 16 #[.string a0, .string a1, .int .i64 a2] w fun e w' => ∃ v0_ : Value, e = .returned (v0_) ∧ Kd.R Kd.string 9 w' w.heap.size (fun _ => True) v0_ r ∧ Below w.heap.size w w' := by
 have HB := Aside0.mk (Below.refl w.heap.size w)
 have H : (semver_zzSplitN.l0 k a0 a1 a2 ([] : List ByteArray)) = some r := h
 clear h
 have H' := Aside0.mk H
 clear H
 go_enter Tryd.func16, Tryd.ntmps16
 go_wp2
 go_loopg [0, 7] k (fun kq v0 v7 w' => ∃ (x0_1 : ByteArray) (x7_1 : List ByteArray), v0 = .string x0_1 ∧ Aside0 (semver_zzSplitN.l0 kq x0_1 a1 a2 x7_1 = some r) ∧ Aside0 (kq ≤ k) ∧ Aside0 (Kd.R Kd.string 9 w' w.heap.size (fun _ => True) v7 x7_1) ∧ Aside0 (Below w.heap.size w w'))
 case atStart => exact ⟨(a0), (([] : List ByteArray)), (by first | rfl | (simp; done) | (simp [*]; done)), H', ⟨Nat.le_refl _⟩, ⟨by first | exact Kd.R_nil _ _ _ _ _ | exact Kd.N_nil _ _ _ _ _ | exact Kd.V_nil _ _ _ _ _ | exact Kd.Q_nil _ _ _ _ _ | exact Kd.S_nil _ _ _ _ _⟩, ⟨by repeat (first | (with_reducible first | exact HB.out | apply below_alloc | apply pw_below_drewN | apply below_drew1) | exact HB.out)⟩⟩
 case round =>
  clear H'
  try clear c1
  try clear p2
  obtain ⟨x0_1, x7_1, rfl, HA, HK1, HO_7, HB⟩ := hrel
  cases gk with
  | zero => exact absurd HA.out (by simp [semver_zzSplitN.l0])
  | succ k1 =>
   have H := HA.out
   clear HA
   simp only [semver_zzSplitN.l0] at H
   by_cases c4 : (x7_1.length : Int) < (wrap64 (a2 - 1))
   ·
    rw [if_pos c4] at H
    have c4b0 : decide ((x7_1.length : Int) < (wrap64 (a2 - 1))) = true := decide_eq_true c4
    clear c4
    replace H := Option.bind_eq_some_iff.mp H
    obtain ⟨t128, A50, H⟩ := H
    replace H : (if t128 < 0 then (if x7_1.length < 8796093022208 then (some (x7_1 ++ [x0_1])) else (none)) else (if 0 ≤ t128 then (if t128 ≤ (x0_1.size : Int) then (if x7_1.length < 8796093022208 then (if 0 ≤ (wrap64 (t128 + (a1.size : Int))) then (if (wrap64 (t128 + (a1.size : Int))) ≤ (x0_1.size : Int) then (semver_zzSplitN.l0 k1 (x0_1.extract ((wrap64 (t128 + (a1.size : Int))) : Int).toNat x0_1.size) a1 a2 (x7_1 ++ [x0_1.extract 0 (t128 : Int).toNat])) else (none)) else (none)) else (none)) else (none)) else (none))) = some r := H
    have A5 := Aside0.mk A50
    clear A50
    by_cases c6 : t128 < 0
    ·
     rw [if_pos c6] at H
     have c6b0 : decide (t128 < 0) = true := decide_eq_true c6
     clear c6
     by_cases c7 : x7_1.length < 8796093022208
     ·
      rw [if_pos c7] at H
      have LMc7 := Aside0.mk c7
      clear c7
      obtain ⟨y129, hy129⟩ : ∃ y_ : List ByteArray, y_ = (x7_1 ++ [x0_1]) := ⟨_, rfl⟩
      replace H : (some y129) = some r := by first | (rw [hy129]; with_reducible exact H) | (have H2_ := (Option.bind_some _ _).symm.trans H; rw [hy129]; with_reducible exact H2_) | (have H2_ := (Option.bind_some _ _).symm.trans H; with_reducible exact H2_) | with_reducible exact H | (rw [hy129]; exact H) | exact H
      have Ny129 := Aside0.mk hy129
      clear hy129
      obtain rfl := Option.some.inj H
      obtain ⟨Ao8, co8, eo8⟩ := Kd.R_slice HO_7.out
      subst eo8
      go_wp2_with (first | ((with_reducible refine gate_callee (f := 25) rfl ?_); refine goesL_ (some 16) rfl rfl Tryd.func25 (by kernel_rfl) rfl #[.string x0_1, .string a1] rfl (by (try simp only [List.map_toArray, List.map_cons, List.map_nil]); first | done | rfl | (simp only [List.length_drop, List.length_take]; rfl)) ?_; (with_reducible refine (semver_zzIndex.calls k1 x0_1 a1 t128 _ A5.out).mono ?_); rintro e w' ⟨rfl, ⟨nd, rfl⟩⟩; refine ⟨_, rfl, ?_⟩) | ((with_reducible refine gate_builtin (b := .append) (xs := #[.tmp 31, .tmp 33]) rfl ?_); at_builtin; refine Kd.R_append Kd.string (w0 := w) w.heap.size rfl (.tmp 31) (.tmp 33) 39 9 (.string ⟨#[]⟩) 16 rfl Tryd.underlying39 info9 rfl (by decide) (by omega) (.slice Ao8 x7_1.length co8) x7_1 x0_1 [.string x0_1] (fun _ => True) (fun _ => False) rfl rfl ?aP (fun _ hk => hk.elim) ?aF ?aO ?aB ?aS ?aL ?_; (case aP => exact rfl); (case aB => exact (by repeat (first | (with_reducible first | exact HB.out | apply below_alloc | apply pw_below_drewN | apply below_drew1) | exact HB.out))); (case aF => exact (fun _ _ => trivial)); (case aO => exact (by (with_reducible repeat (first | apply Kd.R_alloc | apply Kd.R_drewN | apply Kd.R_drew)); exact HO_7.out)); (case aS => exact (below_size (by repeat (first | (with_reducible first | exact HB.out | apply below_alloc | apply pw_below_drewN | apply below_drew1) | exact HB.out)))); (case aL => have := LMc7.out; omega); intro v130 w9 ho hb hg hat; rw [← Ny129.out] at ho; have n0_ := Aside0.mk (hb); have n1_ := Aside0.mk (ho); clear HB; clear HO_7; have HB := n0_; have HO131 := n1_; clear n0_ n1_; clear ho hb hg hat))
      go_ret
      exact ⟨_, by first | rfl | (simp [errW_none, errW_some] <;> rfl) | (simp [*, errW_none, errW_some] <;> rfl), by (with_reducible repeat (first | apply Kd.R_alloc | apply Kd.R_drewN | apply Kd.R_drew)); exact HO131.out, by repeat (first | (with_reducible first | exact HB.out | apply below_alloc | apply pw_below_drewN | apply below_drew1) | exact HB.out)⟩
     ·
      rw [if_neg c7] at H
      exact absurd H (by simp)
    ·
     rw [if_neg c6] at H
     have c6b0 : decide (t128 < 0) = false := decide_eq_false c6
     clear c6
     by_cases c10 : 0 ≤ t128
     ·
      rw [if_pos c10] at H
      have c10b0 := eq_true c10
      have c10b1 : decide (0 ≤ t128) = true := decide_eq_true c10
      clear c10
      by_cases c11 : t128 ≤ (x0_1.size : Int)
      ·
       rw [if_pos c11] at H
       have c11b0 := eq_true c11
       have c11b1 : decide (t128 ≤ (x0_1.size : Int)) = true := decide_eq_true c11
       clear c11
       by_cases c12 : x7_1.length < 8796093022208
       ·
        rw [if_pos c12] at H
        have LMc12 := Aside0.mk c12
        clear c12
        obtain ⟨y132, hy132⟩ : ∃ y_ : List ByteArray, y_ = (x7_1 ++ [x0_1.extract 0 (t128 : Int).toNat]) := ⟨_, rfl⟩
        replace H : (if 0 ≤ (wrap64 (t128 + (a1.size : Int))) then (if (wrap64 (t128 + (a1.size : Int))) ≤ (x0_1.size : Int) then (semver_zzSplitN.l0 k1 (x0_1.extract ((wrap64 (t128 + (a1.size : Int))) : Int).toNat x0_1.size) a1 a2 y132) else (none)) else (none)) = some r := by first | (rw [hy132]; with_reducible exact H) | (have H2_ := (Option.bind_some _ _).symm.trans H; rw [hy132]; with_reducible exact H2_) | (have H2_ := (Option.bind_some _ _).symm.trans H; with_reducible exact H2_) | with_reducible exact H | (rw [hy132]; exact H) | exact H
        have Ny132 := Aside0.mk hy132
        clear hy132
        obtain ⟨ji13, hji13⟩ : ∃ j_ : Int, (wrap64 (t128 + (a1.size : Int))) = j_ := ⟨_, rfl⟩
        replace H : (if 0 ≤ (ji13) then (if (ji13) ≤ (x0_1.size : Int) then (semver_zzSplitN.l0 k1 (x0_1.extract ((ji13) : Int).toNat x0_1.size) a1 a2 y132) else (none)) else (none)) = some r := by first | (rw [hji13] at H; exact H) | (simp only [hji13] at H ⊢; exact H)
        (try rw [hji13] at A5)
        have hji13w : (IntKind.i64.wrap (t128 + (a1.size : Int))) = ji13 := (i64_w _).trans hji13
        by_cases c14 : 0 ≤ (ji13)
        ·
         rw [if_pos c14] at H
         have c14b0 := eq_true c14
         have c14b1 : decide (0 ≤ (ji13)) = true := decide_eq_true c14
         clear c14
         by_cases c15 : (ji13) ≤ (x0_1.size : Int)
         ·
          rw [if_pos c15] at H
          have c15b0 := eq_true c15
          have c15b1 : decide ((ji13) ≤ (x0_1.size : Int)) = true := decide_eq_true c15
          clear c15
          have H' := Aside0.mk H
          clear H
          obtain ⟨Ao16, co16, eo16⟩ := Kd.R_slice HO_7.out
          subst eo16
          go_wp2_with (first | ((with_reducible refine gate_callee (f := 25) rfl ?_); refine goesL_ (some 16) rfl rfl Tryd.func25 (by kernel_rfl) rfl #[.string x0_1, .string a1] rfl (by (try simp only [List.map_toArray, List.map_cons, List.map_nil]); first | done | rfl | (simp only [List.length_drop, List.length_take]; rfl)) ?_; (with_reducible refine (semver_zzIndex.calls k1 x0_1 a1 t128 _ A5.out).mono ?_); rintro e w' ⟨rfl, ⟨nd, rfl⟩⟩; refine ⟨_, rfl, ?_⟩) | ((with_reducible refine gate_builtin (b := .append) (xs := #[.tmp 19, .tmp 23]) rfl ?_); at_builtin; refine Kd.R_append Kd.string (w0 := w) w.heap.size rfl (.tmp 19) (.tmp 23) 39 9 (.string ⟨#[]⟩) 16 rfl Tryd.underlying39 info9 rfl (by decide) (by omega) (.slice Ao16 x7_1.length co16) x7_1 (x0_1.extract 0 (t128 : Int).toNat) [.string (x0_1.extract 0 (t128 : Int).toNat)] (fun _ => True) (fun _ => False) rfl rfl ?aP (fun _ hk => hk.elim) ?aF ?aO ?aB ?aS ?aL ?_; (case aP => exact rfl); (case aB => exact (by repeat (first | (with_reducible first | exact HB.out | apply below_alloc | apply pw_below_drewN | apply below_drew1) | exact HB.out))); (case aF => exact (fun _ _ => trivial)); (case aO => exact (by (with_reducible repeat (first | apply Kd.R_alloc | apply Kd.R_drewN | apply Kd.R_drew)); exact HO_7.out)); (case aS => exact (below_size (by repeat (first | (with_reducible first | exact HB.out | apply below_alloc | apply pw_below_drewN | apply below_drew1) | exact HB.out)))); (case aL => have := LMc12.out; omega); intro v133 w17 ho hb hg hat; rw [← Ny132.out] at ho; have n0_ := Aside0.mk (hb); have n1_ := Aside0.mk (ho); clear HB; clear HO_7; have HB := n0_; have HO134 := n1_; clear n0_ n1_; clear ho hb hg hat))
          go_roundg k1
          case measure => have := HK1.out; omega
          case rel => exact ⟨(x0_1.extract ((ji13) : Int).toNat x0_1.size), (y132), (by first | rfl | (simp; done) | (simp only [← hji13] <;> (first | rfl | simp)) | (simp [*]; done)), H', ⟨by have := HK1.out; omega⟩, ⟨by (with_reducible repeat (first | apply Kd.R_alloc | apply Kd.R_drewN | apply Kd.R_drew)); exact HO134.out⟩, ⟨by repeat (first | (with_reducible first | exact HB.out | apply below_alloc | apply pw_below_drewN | apply below_drew1) | exact HB.out)⟩⟩
         ·
          rw [if_neg c15] at H
          exact absurd H (by simp)
        ·
         rw [if_neg c14] at H
         exact absurd H (by simp)
       ·
        rw [if_neg c12] at H
        exact absurd H (by simp)
      ·
       rw [if_neg c11] at H
       exact absurd H (by simp)
     ·
      rw [if_neg c10] at H
      exact absurd H (by simp)
   ·
    rw [if_neg c4] at H
    have c4b0 : decide ((x7_1.length : Int) < (wrap64 (a2 - 1))) = false := decide_eq_false c4
    clear c4
    by_cases c18 : x7_1.length < 8796093022208
    ·
     rw [if_pos c18] at H
     have LMc18 := Aside0.mk c18
     clear c18
     obtain ⟨y135, hy135⟩ : ∃ y_ : List ByteArray, y_ = (x7_1 ++ [x0_1]) := ⟨_, rfl⟩
     replace H : (some y135) = some r := by first | (rw [hy135]; with_reducible exact H) | (have H2_ := (Option.bind_some _ _).symm.trans H; rw [hy135]; with_reducible exact H2_) | (have H2_ := (Option.bind_some _ _).symm.trans H; with_reducible exact H2_) | with_reducible exact H | (rw [hy135]; exact H) | exact H
     have Ny135 := Aside0.mk hy135
     clear hy135
     obtain rfl := Option.some.inj H
     obtain ⟨Ao19, co19, eo19⟩ := Kd.R_slice HO_7.out
     subst eo19
     go_wp2_with (first | ((with_reducible refine gate_builtin (b := .append) (xs := #[.tmp 31, .tmp 33]) rfl ?_); at_builtin; refine Kd.R_append Kd.string (w0 := w) w.heap.size rfl (.tmp 31) (.tmp 33) 39 9 (.string ⟨#[]⟩) 16 rfl Tryd.underlying39 info9 rfl (by decide) (by omega) (.slice Ao19 x7_1.length co19) x7_1 x0_1 [.string x0_1] (fun _ => True) (fun _ => False) rfl rfl ?aP (fun _ hk => hk.elim) ?aF ?aO ?aB ?aS ?aL ?_; (case aP => exact rfl); (case aB => exact (by repeat (first | (with_reducible first | exact HB.out | apply below_alloc | apply pw_below_drewN | apply below_drew1) | exact HB.out))); (case aF => exact (fun _ _ => trivial)); (case aO => exact (by (with_reducible repeat (first | apply Kd.R_alloc | apply Kd.R_drewN | apply Kd.R_drew)); exact HO_7.out)); (case aS => exact (below_size (by repeat (first | (with_reducible first | exact HB.out | apply below_alloc | apply pw_below_drewN | apply below_drew1) | exact HB.out)))); (case aL => have := LMc18.out; omega); intro v136 w20 ho hb hg hat; rw [← Ny135.out] at ho; have n0_ := Aside0.mk (hb); have n1_ := Aside0.mk (ho); clear HB; clear HO_7; have HB := n0_; have HO137 := n1_; clear n0_ n1_; clear ho hb hg hat))
     go_ret
     exact ⟨_, by first | rfl | (simp [errW_none, errW_some] <;> rfl) | (simp [*, errW_none, errW_some] <;> rfl), by (with_reducible repeat (first | apply Kd.R_alloc | apply Kd.R_drewN | apply Kd.R_drew)); exact HO137.out, by repeat (first | (with_reducible first | exact HB.out | apply below_alloc | apply pw_below_drewN | apply below_drew1) | exact HB.out)⟩
    ·
     rw [if_neg c18] at H
     exact absurd H (by simp)

def semver_zzContains.f (k : Nat) (a0 : ByteArray) (a1 : ByteArray) : Option (Bool) := (semver_zzIndex.f k a0 a1).bind fun t138 => (some (decide (t138 ≥ 0)))

set_option maxHeartbeats 80000000 in
set_option maxRecDepth 100000 in
theorem semver_zzContains.calls (k : Nat) (a0 : ByteArray) (a1 : ByteArray) (r : Bool) (w : World) (h : semver_zzContains.f k a0 a1 = some r) :
    Calls Tryd.prog 17 #[.string a0, .string a1] w fun e w' => e = .returned (.bool r) ∧ Drawn0 w w' := by
  have H : ((semver_zzIndex.f k a0 a1).bind fun t138 => (some (decide (t138 ≥ 0)))) = some r := h
  clear h
  replace H := Option.bind_eq_some_iff.mp H
  obtain ⟨t138, A30, H⟩ := H
  replace H : (some (decide (t138 ≥ 0))) = some r := H
  have A3 := Aside0.mk A30
  clear A30
  obtain rfl := Option.some.inj H
  go_enter Tryd.func17, Tryd.ntmps17
  go_wp2_with (first | ((with_reducible refine gate_callee (f := 25) rfl ?_); refine goesL_ (some 7) rfl rfl Tryd.func25 (by kernel_rfl) rfl #[.string a0, .string a1] rfl (by (try simp only [List.map_toArray, List.map_cons, List.map_nil]); first | done | rfl | (simp only [List.length_drop, List.length_take]; rfl)) ?_; (with_reducible refine (semver_zzIndex.calls k a0 a1 t138 _ A3.out).mono ?_); rintro e w' ⟨rfl, ⟨nd, rfl⟩⟩; refine ⟨_, rfl, ?_⟩))
  go_ret
  exact ⟨by first | rfl | (simp; done) | (simp [*]; done) | (simp [bneNil]; done), by repeat (first | exact Drawn0.refl _ | apply Drawn0.step)⟩

def spec_cutAt.l0 : Nat → ByteArray → Int → Int → Option (ByteArray × ByteArray × Bool)
  | 0, _, _, _ => none
  | k + 1, x0, x1, x7 => if x7 < (x0.size : Int) then (if 0 ≤ x7 then (if (bt x0 x7) = x1 then (if x7 ≤ (x0.size : Int) then (if 0 ≤ (wrap64 (x7 + 1)) then (if (wrap64 (x7 + 1)) ≤ (x0.size : Int) then (some (x0.extract 0 (x7 : Int).toNat, x0.extract ((wrap64 (x7 + 1)) : Int).toNat x0.size, true)) else (none)) else (none)) else (none)) else (spec_cutAt.l0 k x0 x1 (wrap64 (x7 + 1)))) else (none)) else (some (x0, (⟨#[]⟩ : ByteArray), false))

def spec_cutAt.f (k : Nat) (a0 : ByteArray) (a1 : Int) : Option (ByteArray × ByteArray × Bool) := spec_cutAt.l0 k a0 a1 0

set_option maxHeartbeats 80000000 in
set_option maxRecDepth 100000 in
theorem spec_cutAt.calls (k : Nat) (a0 : ByteArray) (a1 : Int) (r1 : ByteArray) (r2 : ByteArray) (r3 : Bool) (w : World) (h : spec_cutAt.f k a0 a1 = some (r1, r2, r3)) :
    Calls Tryd.prog 10 #[.string a0, .int .u8 a1] w fun e w' => e = .returned (.tuple #[.string r1, .string r2, .bool r3]) ∧ Drawn0 w w' := by
  have H : (spec_cutAt.l0 k a0 a1 0) = some (r1, r2, r3) := h
  clear h
  have H' := Aside0.mk H
  clear H
  go_enter Tryd.func10, Tryd.ntmps10
  go_wp2
  repeat (go_quiet (fail); try go_wp2)
  go_loopg [7] k (fun kq v7 w' => ∃ (x7_1 : Int), v7 = .int .i64 x7_1 ∧ Aside0 (spec_cutAt.l0 kq a0 a1 x7_1 = some (r1, r2, r3)) ∧ Aside0 (kq ≤ k) ∧ Drawn0 w w')
  case atStart => exact ⟨(0), (by first | rfl | (simp; done) | (simp [*]; done)), H', ⟨Nat.le_refl _⟩, by repeat (first | exact Drawn0.refl _ | apply Drawn0.step)⟩
  case round =>
    clear H'
    try clear c1
    try clear p2
    obtain ⟨x7_1, rfl, HA, HK1, ⟨m1, rfl⟩⟩ := hrel
    cases gk with
    | zero => exact absurd HA.out (by simp [spec_cutAt.l0])
    | succ k1 =>
      have H := HA.out
      clear HA
      simp only [spec_cutAt.l0] at H
      by_cases c3 : x7_1 < (a0.size : Int)
      · rw [if_pos c3] at H
        have c3b0 : decide (x7_1 < (a0.size : Int)) = true := decide_eq_true c3
        clear c3
        by_cases c4 : 0 ≤ x7_1
        · rw [if_pos c4] at H
          have c4b0 : decide (0 ≤ x7_1) = true := decide_eq_true c4
          clear c4
          by_cases c6 : (bt a0 x7_1) = a1
          · rw [if_pos c6] at H
            have c6b0 : ((bt a0 x7_1) == a1) = true := beq_iff_eq.mpr c6
            have c6b1 : ((bt a0 x7_1) != a1) = false := bne_eq_false_iff_eq.mpr c6
            clear c6
            have c7b0 := eq_true (of_decide_eq_true (by first | (with_reducible assumption) | assumption) : 0 ≤ x7_1)
            by_cases c8 : x7_1 ≤ (a0.size : Int)
            · rw [if_pos c8] at H
              have c8b0 := eq_true c8
              have c8b1 : decide (x7_1 ≤ (a0.size : Int)) = true := decide_eq_true c8
              clear c8
              obtain ⟨ji9, hji9⟩ : ∃ j_ : Int, (wrap64 (x7_1 + 1)) = j_ := ⟨_, rfl⟩
              replace H : (if 0 ≤ (ji9) then (if (ji9) ≤ (a0.size : Int) then (some (a0.extract 0 (x7_1 : Int).toNat, a0.extract ((ji9) : Int).toNat a0.size, true)) else (none)) else (none)) = some (r1, r2, r3) := by first | (rw [hji9] at H; exact H) | (simp only [hji9] at H ⊢; exact H)
              have hji9w : (IntKind.i64.wrap (x7_1 + 1)) = ji9 := (i64_w _).trans hji9
              by_cases c10 : 0 ≤ (ji9)
              · rw [if_pos c10] at H
                have c10b0 := eq_true c10
                have c10b1 : decide (0 ≤ (ji9)) = true := decide_eq_true c10
                clear c10
                by_cases c11 : (ji9) ≤ (a0.size : Int)
                · rw [if_pos c11] at H
                  have c11b0 := eq_true c11
                  have c11b1 : decide ((ji9) ≤ (a0.size : Int)) = true := decide_eq_true c11
                  clear c11
                  simp only [Option.some.injEq, Prod.mk.injEq] at H
                  obtain ⟨rfl, rfl, rfl⟩ := H
                  have p5 : 0 ≤ (x7_1 : Int) := of_decide_eq_true (by first | (with_reducible assumption) | assumption)
                  have q5 : x7_1 < (a0.size : Int) := of_decide_eq_true (by first | (with_reducible assumption) | assumption)
                  have hx5 := bt_at a0 x7_1
                  replace p5 := eq_true p5
                  replace q5 := eq_true q5
                  go_wp2
                  repeat (go_quiet (fail); try go_wp2)
                  go_ret3
                  exact ⟨by first | rfl | (simp; done) | (simp only [← hji9] <;> (first | rfl | simp)) | (simp [*]; done) | (simp [bneNil]; done), by repeat (first | exact Drawn0.refl _ | apply Drawn0.step)⟩
                · rw [if_neg c11] at H
                  exact absurd H (by simp)
              · rw [if_neg c10] at H
                exact absurd H (by simp)
            · rw [if_neg c8] at H
              exact absurd H (by simp)
          · rw [if_neg c6] at H
            have c6b0 : ((bt a0 x7_1) == a1) = false := beq_eq_false_iff_ne.mpr c6
            have c6b1 : ((bt a0 x7_1) != a1) = true := bne_iff_ne.mpr c6
            have H' := Aside0.mk H
            clear H
            have p5 : 0 ≤ (x7_1 : Int) := of_decide_eq_true (by first | (with_reducible assumption) | assumption)
            have q5 : x7_1 < (a0.size : Int) := of_decide_eq_true (by first | (with_reducible assumption) | assumption)
            have hx5 := bt_at a0 x7_1
            replace p5 := eq_true p5
            replace q5 := eq_true q5
            go_wp2
            repeat (go_quiet (fail); try go_wp2)
            go_roundg k1
            case measure => have := HK1.out; omega
            case rel => exact ⟨(wrap64 (x7_1 + 1)), (by first | rfl | (simp; done) | (simp [*]; done)), H', ⟨by have := HK1.out; omega⟩, by repeat (first | exact Drawn0.refl _ | apply Drawn0.step)⟩
        · rw [if_neg c4] at H
          exact absurd H (by simp)
      · rw [if_neg c3] at H
        have c3b0 : decide (x7_1 < (a0.size : Int)) = false := decide_eq_false c3
        clear c3
        simp only [Option.some.injEq, Prod.mk.injEq] at H
        obtain ⟨rfl, rfl, rfl⟩ := H
        go_wp2
        repeat (go_quiet (fail); try go_wp2)
        go_ret3
        exact ⟨by first | rfl | (simp; done) | (simp [*]; done) | (simp [bneNil]; done), by repeat (first | exact Drawn0.refl _ | apply Drawn0.step)⟩

def spec_Digits.l0 : Nat → ByteArray → Int → Option (Bool)
  | 0, _, _ => none
  | k + 1, x0, x3 => if x3 < (x0.size : Int) then (if 0 ≤ x3 then ((spec_isDigit.f (bt x0 x3)).bind fun t139 => (if t139 = true then (spec_Digits.l0 k x0 (wrap64 (x3 + 1))) else (some false))) else (none)) else (some (x0.toList != ([] : List UInt8)))

def spec_Digits.f (k : Nat) (a0 : ByteArray) : Option (Bool) := spec_Digits.l0 k a0 0

set_option maxHeartbeats 80000000 in
set_option maxRecDepth 100000 in
theorem spec_Digits.calls (k : Nat) (a0 : ByteArray) (r : Bool) (w : World) (h : spec_Digits.f k a0 = some r) :
    Calls Tryd.prog 23 #[.string a0] w fun e w' => e = .returned (.bool r) ∧ Drawn0 w w' := by
  have H : (spec_Digits.l0 k a0 0) = some r := h
  clear h
  have H' := Aside0.mk H
  clear H
  go_enter Tryd.func23, Tryd.ntmps23
  go_wp2
  go_loopg [3] k (fun kq v3 w' => ∃ (x3_1 : Int), v3 = .int .i64 x3_1 ∧ Aside0 (spec_Digits.l0 kq a0 x3_1 = some r) ∧ Aside0 (kq ≤ k) ∧ Drawn0 w w')
  case atStart => exact ⟨(0), (by first | rfl | (simp; done) | (simp [*]; done)), H', ⟨Nat.le_refl _⟩, by repeat (first | exact Drawn0.refl _ | apply Drawn0.step)⟩
  case round =>
    clear H'
    obtain ⟨x3_1, rfl, HA, HK1, ⟨m1, rfl⟩⟩ := hrel
    cases gk with
    | zero => exact absurd HA.out (by simp [spec_Digits.l0])
    | succ k1 =>
      have H := HA.out
      clear HA
      simp only [spec_Digits.l0] at H
      by_cases c2 : x3_1 < (a0.size : Int)
      · rw [if_pos c2] at H
        have c2b0 : decide (x3_1 < (a0.size : Int)) = true := decide_eq_true c2
        clear c2
        by_cases c3 : 0 ≤ x3_1
        · rw [if_pos c3] at H
          have c3b0 : decide (0 ≤ x3_1) = true := decide_eq_true c3
          clear c3
          replace H := Option.bind_eq_some_iff.mp H
          obtain ⟨t139, A50, H⟩ := H
          replace H : (if t139 = true then (spec_Digits.l0 k1 a0 (wrap64 (x3_1 + 1))) else (some false)) = some r := H
          have A5 := Aside0.mk A50
          clear A50
          by_cases c6 : t139 = true
          · subst c6
            have H1 : (spec_Digits.l0 k1 a0 (wrap64 (x3_1 + 1))) = some r := by rw [if_pos rfl] at H; exact H
            clear H
            have H := H1
            clear H1
            have H' := Aside0.mk H
            clear H
            have p4 : 0 ≤ (x3_1 : Int) := of_decide_eq_true (by first | (with_reducible assumption) | assumption)
            have q4 : x3_1 < (a0.size : Int) := of_decide_eq_true (by first | (with_reducible assumption) | assumption)
            have hx4 := bt_at a0 x3_1
            replace p4 := eq_true p4
            replace q4 := eq_true q4
            go_wp2_with (first | ((with_reducible refine gate_callee (f := 34) rfl ?_); refine goesL_ (some 13) rfl rfl Tryd.func34 (by kernel_rfl) rfl #[.int .u8 (bt a0 x3_1)] rfl (by (try simp only [List.map_toArray, List.map_cons, List.map_nil]); first | done | rfl | (simp only [List.length_drop, List.length_take]; rfl)) ?_; (with_reducible refine (spec_isDigit.calls (bt a0 x3_1) true _ A5.out).mono ?_); rintro e w' ⟨rfl, ⟨nd, rfl⟩⟩; refine ⟨_, rfl, ?_⟩))
            go_roundg k1
            case measure => have := HK1.out; omega
            case rel => exact ⟨(wrap64 (x3_1 + 1)), (by first | rfl | (simp; done) | (simp [*]; done)), H', ⟨by have := HK1.out; omega⟩, by repeat (first | exact Drawn0.refl _ | apply Drawn0.step)⟩
          · replace c6 := Bool.eq_false_iff.mpr c6
            subst c6
            have H1 : (some false) = some r := by rw [if_neg (show ¬ (false = true) by decide)] at H; exact H
            clear H
            have H := H1
            clear H1
            obtain rfl := Option.some.inj H
            have p4 : 0 ≤ (x3_1 : Int) := of_decide_eq_true (by first | (with_reducible assumption) | assumption)
            have q4 : x3_1 < (a0.size : Int) := of_decide_eq_true (by first | (with_reducible assumption) | assumption)
            have hx4 := bt_at a0 x3_1
            replace p4 := eq_true p4
            replace q4 := eq_true q4
            go_wp2_with (first | ((with_reducible refine gate_callee (f := 34) rfl ?_); refine goesL_ (some 13) rfl rfl Tryd.func34 (by kernel_rfl) rfl #[.int .u8 (bt a0 x3_1)] rfl (by (try simp only [List.map_toArray, List.map_cons, List.map_nil]); first | done | rfl | (simp only [List.length_drop, List.length_take]; rfl)) ?_; (with_reducible refine (spec_isDigit.calls (bt a0 x3_1) false _ A5.out).mono ?_); rintro e w' ⟨rfl, ⟨nd, rfl⟩⟩; refine ⟨_, rfl, ?_⟩))
            go_ret
            exact ⟨by first | rfl | (simp; done) | (simp [*]; done) | (simp [bneNil]; done), by repeat (first | exact Drawn0.refl _ | apply Drawn0.step)⟩
        · rw [if_neg c3] at H
          exact absurd H (by simp)
      · rw [if_neg c2] at H
        have c2b0 : decide (x3_1 < (a0.size : Int)) = false := decide_eq_false c2
        clear c2
        obtain rfl := Option.some.inj H
        go_wp2
        go_ret
        exact ⟨by first | rfl | (simp; done) | (simp [*]; done) | (simp [bneNil]; done), by repeat (first | exact Drawn0.refl _ | apply Drawn0.step)⟩

def spec_Number.l0 : Nat → ByteArray → Int → Int → Option (Int × Bool)
  | 0, _, _, _ => none
  | k + 1, x0, x4, x5 => if x5 < (x0.size : Int) then (if 0 ≤ x5 then (if x4 > ((18446744073709551615 - (((bt x0 x5) - 48) % 256)) / 10) then (some (0, false)) else (spec_Number.l0 k x0 (IntKind.u64.wrap ((IntKind.u64.wrap (x4 * 10)) + (((bt x0 x5) - 48) % 256))) (wrap64 (x5 + 1)))) else (none)) else (some (x4, true))

def spec_Number.f (k : Nat) (a0 : ByteArray) : Option (Int × Bool) := (spec_Digits.f k a0).bind fun t140 => (if t140 = true then (spec_Number.l0 k a0 0 0) else (some (0, false)))

set_option maxHeartbeats 80000000 in
set_option maxRecDepth 100000 in
theorem spec_Number.calls (k : Nat) (a0 : ByteArray) (r1 : Int) (r2 : Bool) (w : World) (h : spec_Number.f k a0 = some (r1, r2)) :
    Calls Tryd.prog 13 #[.string a0] w fun e w' => e = .returned (.tuple #[.int .u64 r1, .bool r2]) ∧ Drawn0 w w' := by
  have H : ((spec_Digits.f k a0).bind fun t140 => (if t140 = true then (spec_Number.l0 k a0 0 0) else (some (0, false)))) = some (r1, r2) := h
  clear h
  replace H := Option.bind_eq_some_iff.mp H
  obtain ⟨t140, A20, H⟩ := H
  replace H : (if t140 = true then (spec_Number.l0 k a0 0 0) else (some (0, false))) = some (r1, r2) := H
  have A2 := Aside0.mk A20
  clear A20
  by_cases c3 : t140 = true
  · subst c3
    have H1 : (spec_Number.l0 k a0 0 0) = some (r1, r2) := by rw [if_pos rfl] at H; exact H
    clear H
    have H := H1
    clear H1
    have H' := Aside0.mk H
    clear H
    go_enter Tryd.func13, Tryd.ntmps13
    go_wp2_with (first | ((with_reducible refine gate_callee (f := 23) rfl ?_); refine goesL_ (some 8) rfl rfl Tryd.func23 (by kernel_rfl) rfl #[.string a0] rfl (by (try simp only [List.map_toArray, List.map_cons, List.map_nil]); first | done | rfl | (simp only [List.length_drop, List.length_take]; rfl)) ?_; (with_reducible refine (spec_Digits.calls k a0 true _ A2.out).mono ?_); rintro e w' ⟨rfl, ⟨nd, rfl⟩⟩; refine ⟨_, rfl, ?_⟩))
    go_loopg [4, 5] k (fun kq v4 v5 w' => ∃ (x4_1 : Int) (x5_1 : Int), v4 = .int .u64 x4_1 ∧ v5 = .int .i64 x5_1 ∧ Aside0 (spec_Number.l0 kq a0 x4_1 x5_1 = some (r1, r2)) ∧ Aside0 (kq ≤ k) ∧ Drawn0 w w')
    case atStart => exact ⟨(0), (0), (by first | rfl | (simp; done) | (simp [*]; done)), (by first | rfl | (simp; done) | (simp [*]; done)), H', ⟨Nat.le_refl _⟩, by repeat (first | exact Drawn0.refl _ | apply Drawn0.step)⟩
    case round =>
      clear H'
      try clear c1
      try clear c2
      try clear p2
      try clear c3
      obtain ⟨x4_1, x5_1, rfl, rfl, HA, HK1, ⟨m1, rfl⟩⟩ := hrel
      cases gk with
      | zero => exact absurd HA.out (by simp [spec_Number.l0])
      | succ k1 =>
        have H := HA.out
        clear HA
        simp only [spec_Number.l0] at H
        by_cases c4 : x5_1 < (a0.size : Int)
        · rw [if_pos c4] at H
          have c4b0 : decide (x5_1 < (a0.size : Int)) = true := decide_eq_true c4
          clear c4
          by_cases c5 : 0 ≤ x5_1
          · rw [if_pos c5] at H
            have c5b0 : decide (0 ≤ x5_1) = true := decide_eq_true c5
            clear c5
            by_cases c7 : x4_1 > ((18446744073709551615 - (((bt a0 x5_1) - 48) % 256)) / 10)
            · rw [if_pos c7] at H
              have c7b0 : decide (((18446744073709551615 - (((bt a0 x5_1) - 48) % 256)) / 10) < x4_1) = true := decide_eq_true c7
              clear c7
              simp only [Option.some.injEq, Prod.mk.injEq] at H
              obtain ⟨rfl, rfl⟩ := H
              have p6 : 0 ≤ (x5_1 : Int) := of_decide_eq_true (by first | (with_reducible assumption) | assumption)
              have q6 : x5_1 < (a0.size : Int) := of_decide_eq_true (by first | (with_reducible assumption) | assumption)
              have hx6 := bt_at a0 x5_1
              replace p6 := eq_true p6
              replace q6 := eq_true q6
              go_wp2
              go_ret2
              exact ⟨by first | rfl | (simp; done) | (simp [*]; done) | (simp [bneNil]; done), by repeat (first | exact Drawn0.refl _ | apply Drawn0.step)⟩
            · rw [if_neg c7] at H
              have c7b0 : decide (((18446744073709551615 - (((bt a0 x5_1) - 48) % 256)) / 10) < x4_1) = false := decide_eq_false c7
              clear c7
              have H' := Aside0.mk H
              clear H
              have p6 : 0 ≤ (x5_1 : Int) := of_decide_eq_true (by first | (with_reducible assumption) | assumption)
              have q6 : x5_1 < (a0.size : Int) := of_decide_eq_true (by first | (with_reducible assumption) | assumption)
              have hx6 := bt_at a0 x5_1
              replace p6 := eq_true p6
              replace q6 := eq_true q6
              go_wp2
              go_roundg k1
              case measure => have := HK1.out; omega
              case rel => exact ⟨(IntKind.u64.wrap ((IntKind.u64.wrap (x4_1 * 10)) + (((bt a0 x5_1) - 48) % 256))), (wrap64 (x5_1 + 1)), (by first | rfl | (simp; done) | (simp [*]; done)), (by first | rfl | (simp; done) | (simp [*]; done)), H', ⟨by have := HK1.out; omega⟩, by repeat (first | exact Drawn0.refl _ | apply Drawn0.step)⟩
          · rw [if_neg c5] at H
            exact absurd H (by simp)
        · rw [if_neg c4] at H
          have c4b0 : decide (x5_1 < (a0.size : Int)) = false := decide_eq_false c4
          clear c4
          simp only [Option.some.injEq, Prod.mk.injEq] at H
          obtain ⟨rfl, rfl⟩ := H
          go_wp2
          go_ret2
          exact ⟨by first | rfl | (simp; done) | (simp [*]; done) | (simp [bneNil]; done), by repeat (first | exact Drawn0.refl _ | apply Drawn0.step)⟩
  · replace c3 := Bool.eq_false_iff.mpr c3
    subst c3
    have H1 : (some (0, false)) = some (r1, r2) := by rw [if_neg (show ¬ (false = true) by decide)] at H; exact H
    clear H
    have H := H1
    clear H1
    simp only [Option.some.injEq, Prod.mk.injEq] at H
    obtain ⟨rfl, rfl⟩ := H
    go_enter Tryd.func13, Tryd.ntmps13
    go_wp2_with (first | ((with_reducible refine gate_callee (f := 23) rfl ?_); refine goesL_ (some 8) rfl rfl Tryd.func23 (by kernel_rfl) rfl #[.string a0] rfl (by (try simp only [List.map_toArray, List.map_cons, List.map_nil]); first | done | rfl | (simp only [List.length_drop, List.length_take]; rfl)) ?_; (with_reducible refine (spec_Digits.calls k a0 false _ A2.out).mono ?_); rintro e w' ⟨rfl, ⟨nd, rfl⟩⟩; refine ⟨_, rfl, ?_⟩))
    go_ret2
    exact ⟨by first | rfl | (simp; done) | (simp [*]; done) | (simp [bneNil]; done), by repeat (first | exact Drawn0.refl _ | apply Drawn0.step)⟩

def spec_NumberKind.f (k : Nat) (a0 : ByteArray) : Option (Int) := if a0.toList = ([] : List UInt8) then (some 0) else ((spec_Digits.f k a0).bind fun t141 => (if t141 = true then (if (a0.size : Int) > 1 then (if 0 < (a0.size : Int) then (if (bt a0 0) = 48 then (some 4) else (some 0)) else (none)) else (some 0)) else (some 3)))

set_option maxHeartbeats 80000000 in
set_option maxRecDepth 100000 in
theorem spec_NumberKind.calls (k : Nat) (a0 : ByteArray) (r : Int) (w : World) (h : spec_NumberKind.f k a0 = some r) :
  Calls Tryd.prog 12 #[.string a0] w fun e w' => e = .returned (.int .i64 r) ∧ Drawn0 w w' := by
 have H : (if a0.toList = ([] : List UInt8) then (some 0) else ((spec_Digits.f k a0).bind fun t141 => (if t141 = true then (if (a0.size : Int) > 1 then (if 0 < (a0.size : Int) then (if (bt a0 0) = 48 then (some 4) else (some 0)) else (none)) else (some 0)) else (some 3)))) = some r := h
 clear h
 by_cases c2 : a0.toList = ([] : List UInt8)
 ·
  rw [if_pos c2] at H
  have c2b0 : (a0.toList == ([] : List UInt8)) = true := beq_iff_eq.mpr c2
  have c2b1 : (a0.toList != ([] : List UInt8)) = false := bne_eq_false_iff_eq.mpr c2
  clear c2
  obtain rfl := Option.some.inj H
  go_enter Tryd.func12, Tryd.ntmps12
  go_wp2
  go_ret
  exact ⟨by first | rfl | (simp; done) | (simp [*]; done) | (simp [bneNil]; done), by repeat (first | exact Drawn0.refl _ | apply Drawn0.step)⟩
 ·
  rw [if_neg c2] at H
  have c2b0 : (a0.toList == ([] : List UInt8)) = false := beq_eq_false_iff_ne.mpr c2
  have c2b1 : (a0.toList != ([] : List UInt8)) = true := bne_iff_ne.mpr c2
  replace H := Option.bind_eq_some_iff.mp H
  obtain ⟨t141, A30, H⟩ := H
  replace H : (if t141 = true then (if (a0.size : Int) > 1 then (if 0 < (a0.size : Int) then (if (bt a0 0) = 48 then (some 4) else (some 0)) else (none)) else (some 0)) else (some 3)) = some r := H
  have A3 := Aside0.mk A30
  clear A30
  by_cases c4 : t141 = true
  ·
   subst c4
   have H1 : (if (a0.size : Int) > 1 then (if 0 < (a0.size : Int) then (if (bt a0 0) = 48 then (some 4) else (some 0)) else (none)) else (some 0)) = some r := by rw [if_pos rfl] at H; exact H
   clear H
   have H := H1
   clear H1
   by_cases c5 : (a0.size : Int) > 1
   ·
    rw [if_pos c5] at H
    have c5b0 : decide (1 < (a0.size : Int)) = true := decide_eq_true c5
    have c5b1 : decide (1 < a0.size) = true := decide_eq_true (by omega)
    clear c5
    by_cases c6 : 0 < (a0.size : Int)
    ·
     rw [if_pos c6] at H
     have c6b0 : decide (0 < (a0.size : Int)) = true := decide_eq_true c6
     have c6b1 : decide (0 < a0.size) = true := decide_eq_true (by omega)
     clear c6
     by_cases c8 : (bt a0 0) = 48
     ·
      rw [if_pos c8] at H
      have c8b0 : ((bt a0 0) == 48) = true := beq_iff_eq.mpr c8
      have c8b1 : ((bt a0 0) != 48) = false := bne_eq_false_iff_eq.mpr c8
      clear c8
      obtain rfl := Option.some.inj H
      go_enter Tryd.func12, Tryd.ntmps12
      go_wp2_with (first | ((with_reducible refine gate_callee (f := 23) rfl ?_); refine goesL_ (some 8) rfl rfl Tryd.func23 (by kernel_rfl) rfl #[.string a0] rfl (by (try simp only [List.map_toArray, List.map_cons, List.map_nil]); first | done | rfl | (simp only [List.length_drop, List.length_take]; rfl)) ?_; (with_reducible refine (spec_Digits.calls k a0 true _ A3.out).mono ?_); rintro e w' ⟨rfl, ⟨nd, rfl⟩⟩; refine ⟨_, rfl, ?_⟩; have p7 : 0 ≤ (0 : Int) := (by omega); have q7 : 0 < a0.size := (by have : (0 : Int) < (a0.size : Int) := of_decide_eq_true (by first | (with_reducible assumption) | assumption); omega); have hx7 : ∀ h : 0 < a0.size, ((a0[0]'h).toNat : Int) = bt a0 0 := bt_at a0 0; clear p7; have qi7 : (0 < (a0.size : Int)) = True := eq_true (of_decide_eq_true (by first | (with_reducible assumption) | assumption)); replace q7 := eq_true q7))
      go_ret
      exact ⟨by first | rfl | (simp; done) | (simp [*]; done) | (simp [bneNil]; done), by repeat (first | exact Drawn0.refl _ | apply Drawn0.step)⟩
     ·
      rw [if_neg c8] at H
      have c8b0 : ((bt a0 0) == 48) = false := beq_eq_false_iff_ne.mpr c8
      have c8b1 : ((bt a0 0) != 48) = true := bne_iff_ne.mpr c8
      obtain rfl := Option.some.inj H
      go_enter Tryd.func12, Tryd.ntmps12
      go_wp2_with (first | ((with_reducible refine gate_callee (f := 23) rfl ?_); refine goesL_ (some 8) rfl rfl Tryd.func23 (by kernel_rfl) rfl #[.string a0] rfl (by (try simp only [List.map_toArray, List.map_cons, List.map_nil]); first | done | rfl | (simp only [List.length_drop, List.length_take]; rfl)) ?_; (with_reducible refine (spec_Digits.calls k a0 true _ A3.out).mono ?_); rintro e w' ⟨rfl, ⟨nd, rfl⟩⟩; refine ⟨_, rfl, ?_⟩; have p7 : 0 ≤ (0 : Int) := (by omega); have q7 : 0 < a0.size := (by have : (0 : Int) < (a0.size : Int) := of_decide_eq_true (by first | (with_reducible assumption) | assumption); omega); have hx7 : ∀ h : 0 < a0.size, ((a0[0]'h).toNat : Int) = bt a0 0 := bt_at a0 0; clear p7; have qi7 : (0 < (a0.size : Int)) = True := eq_true (of_decide_eq_true (by first | (with_reducible assumption) | assumption)); replace q7 := eq_true q7))
      go_ret
      exact ⟨by first | rfl | (simp; done) | (simp [*]; done) | (simp [bneNil]; done), by repeat (first | exact Drawn0.refl _ | apply Drawn0.step)⟩
    ·
     rw [if_neg c6] at H
     exact absurd H (by simp)
   ·
    rw [if_neg c5] at H
    have c5b0 : decide (1 < (a0.size : Int)) = false := decide_eq_false c5
    have c5b1 : decide (1 < a0.size) = false := decide_eq_false (by omega)
    clear c5
    obtain rfl := Option.some.inj H
    go_enter Tryd.func12, Tryd.ntmps12
    go_wp2_with (first | ((with_reducible refine gate_callee (f := 23) rfl ?_); refine goesL_ (some 8) rfl rfl Tryd.func23 (by kernel_rfl) rfl #[.string a0] rfl (by (try simp only [List.map_toArray, List.map_cons, List.map_nil]); first | done | rfl | (simp only [List.length_drop, List.length_take]; rfl)) ?_; (with_reducible refine (spec_Digits.calls k a0 true _ A3.out).mono ?_); rintro e w' ⟨rfl, ⟨nd, rfl⟩⟩; refine ⟨_, rfl, ?_⟩))
    go_ret
    exact ⟨by first | rfl | (simp; done) | (simp [*]; done) | (simp [bneNil]; done), by repeat (first | exact Drawn0.refl _ | apply Drawn0.step)⟩
  ·
   replace c4 := Bool.eq_false_iff.mpr c4
   subst c4
   have H1 : (some 3) = some r := by rw [if_neg (show ¬ (false = true) by decide)] at H; exact H
   clear H
   have H := H1
   clear H1
   obtain rfl := Option.some.inj H
   go_enter Tryd.func12, Tryd.ntmps12
   go_wp2_with (first | ((with_reducible refine gate_callee (f := 23) rfl ?_); refine goesL_ (some 8) rfl rfl Tryd.func23 (by kernel_rfl) rfl #[.string a0] rfl (by (try simp only [List.map_toArray, List.map_cons, List.map_nil]); first | done | rfl | (simp only [List.length_drop, List.length_take]; rfl)) ?_; (with_reducible refine (spec_Digits.calls k a0 false _ A3.out).mono ?_); rintro e w' ⟨rfl, ⟨nd, rfl⟩⟩; refine ⟨_, rfl, ?_⟩))
   go_ret
   exact ⟨by first | rfl | (simp; done) | (simp [*]; done) | (simp [bneNil]; done), by repeat (first | exact Drawn0.refl _ | apply Drawn0.step)⟩

mutual
def spec_PreKind.l0 : Nat → List ByteArray → Int → Int → Option (Int)
  | 0, _, _, _ => none
  | k + 1, x6, x7, x8 => if x8 < x7 then (if 0 ≤ x8 then (if x8 < (x6.length : Int) then ((spec_Digits.f k (rdOf ByteArray.empty x6 x8)).bind fun t146 => (if t146 = true then (if ((rdOf ByteArray.empty x6 x8).size : Int) > 1 then (if 0 < ((rdOf ByteArray.empty x6 x8).size : Int) then (spec_PreKind.j1 k (rdOf ByteArray.empty x6 x8) x6 x7 x8 ((bt (rdOf ByteArray.empty x6 x8) 0) == 48)) else (none)) else (spec_PreKind.j1 k (rdOf ByteArray.empty x6 x8) x6 x7 x8 false)) else (spec_PreKind.j1 k (rdOf ByteArray.empty x6 x8) x6 x7 x8 false))) else (none)) else (none)) else (some 0)
def spec_PreKind.j1 : Nat → ByteArray → List ByteArray → Int → Int → Bool → Option (Int)
  | 0, _, _, _, _, _ => none
  | k + 1, x4, x6, x7, x8, x12 => if x12 = true then (some 4) else ((spec_ValidIdent.f k x4).bind fun t147 => (if t147 = true then (spec_PreKind.l0 k x6 x7 (wrap64 (x8 + 1))) else (some 5)))
end

def spec_PreKind.f (k : Nat) (a0 : ByteArray) : Option (Int) := (spec_Identifiers.f k a0).bind fun t142 => (spec_PreKind.l0 k t142 (t142.length : Int) 0)

set_option maxHeartbeats 80000000 in
set_option maxRecDepth 100000 in
theorem spec_PreKind.calls (k : Nat) (a0 : ByteArray) (r : Int) (w : World) (h : spec_PreKind.f k a0 = some r) :
  Calls Tryd.prog 11 #[.string a0] w fun e w' => e = .returned (.int .i64 r) ∧ Below w.heap.size w w' := by
 have HB := Aside0.mk (Below.refl w.heap.size w)
 have H : ((spec_Identifiers.f k a0).bind fun t142 => (spec_PreKind.l0 k t142 (t142.length : Int) 0)) = some r := h
 clear h
 replace H := Option.bind_eq_some_iff.mp H
 obtain ⟨t142, A20, H⟩ := H
 replace H : (spec_PreKind.l0 k t142 (t142.length : Int) 0) = some r := H
 have A2 := Aside0.mk A20
 clear A20
 have H' := Aside0.mk H
 clear H
 go_enter Tryd.func11, Tryd.ntmps11
 go_wp2_with (first | ((with_reducible refine gate_callee (f := 14) rfl ?_); refine goesL_ (some 6) rfl rfl Tryd.func14 (by kernel_rfl) rfl #[.string a0] rfl (by (try simp only [List.map_toArray, List.map_cons, List.map_nil]); first | done | rfl | (simp only [List.length_drop, List.length_take]; rfl)) ?_; (with_reducible refine (spec_Identifiers.calls k a0 t142 _ A2.out).mono ?_); rintro e w3 ⟨v143, rfl, ho0, hb⟩; refine ⟨_, rfl, ?_⟩; have n0_ := Aside0.mk (Kd.R_lower ho0 (below_size (by repeat (first | (with_reducible first | exact HB.out | apply below_alloc | apply pw_below_drewN | apply below_drew1) | exact HB.out)))); have n1_ := Aside0.mk (below_step (by repeat (first | (with_reducible first | exact HB.out | apply below_alloc | apply pw_below_drewN | apply below_drew1) | exact HB.out)) hb); clear HB; have HO144 := n0_; have HB := n1_; clear n0_ n1_; (try clear hb); (try clear hb2); (try clear hk); (try clear hi); (try clear ho0); obtain ⟨Ao4, co4, eo4⟩ := Kd.R_slice HO144.out; subst eo4))
 go_loopg [8] k (fun kq v8 w' => ∃ (x8_1 : Int), v8 = .int .i64 x8_1 ∧ Aside0 (spec_PreKind.l0 kq t142 (t142.length : Int) x8_1 = some r) ∧ Aside0 (kq ≤ k) ∧ Aside0 (Kd.R Kd.string 9 w' w.heap.size (fun _ => True) (.slice Ao4 t142.length co4) t142) ∧ Aside0 (Below w.heap.size w w'))
 case atStart => exact ⟨(0), (by first | rfl | (simp; done) | (simp [*]; done)), H', ⟨Nat.le_refl _⟩, ⟨by (with_reducible repeat (first | apply Kd.R_alloc | apply Kd.R_drewN | apply Kd.R_drew)); exact HO144.out⟩, ⟨by repeat (first | (with_reducible first | exact HB.out | apply below_alloc | apply pw_below_drewN | apply below_drew1) | exact HB.out)⟩⟩
 case round =>
  clear H'
  try clear c1
  try clear p2
  obtain ⟨x8_1, rfl, HA, HK1, HO_6, HB⟩ := hrel
  cases gk with
  | zero => exact absurd HA.out (by simp [spec_PreKind.l0])
  | succ k1 =>
   have H := HA.out
   clear HA
   simp only [spec_PreKind.l0] at H
   by_cases c5 : x8_1 < (t142.length : Int)
   ·
    rw [if_pos c5] at H
    have c5b0 : decide (x8_1 < (t142.length : Int)) = true := decide_eq_true c5
    clear c5
    by_cases c6 : 0 ≤ x8_1
    ·
     rw [if_pos c6] at H
     have c6b0 : decide (0 ≤ x8_1) = true := decide_eq_true c6
     clear c6
     by_cases c7 : x8_1 < (t142.length : Int)
     ·
      rw [if_pos c7] at H
      have c7b0 : decide (x8_1 < (t142.length : Int)) = true := decide_eq_true c7
      clear c7
      have HC8 := Aside0.mk H
      clear H
      have p145 : 0 ≤ (x8_1 : Int) := of_decide_eq_true (by first | (with_reducible assumption) | assumption)
      have q145 : x8_1 < (t142.length : Int) := of_decide_eq_true (by first | (with_reducible assumption) | assumption)
      obtain ⟨ad145, e145, hx145_0⟩ := Kd.at_string (Kd.R_reads' HO_6.out).2.2 x8_1 p145 q145
      cases e145
      replace p145 := eq_true p145
      replace q145 := eq_true q145
      go_upto_region 4 with (fail)
      go_cut [12] (fun v12 wc => ∃ (kq : Nat) (x12_7 : Bool), v12 = .bool x12_7 ∧ Aside0 (spec_PreKind.j1 kq (rdOf ByteArray.empty t142 x8_1) t142 (t142.length : Int) x8_1 x12_7 = some r) ∧ Aside0 (kq ≤ k1) ∧ Aside0 (Kd.R Kd.string 9 wc w.heap.size (fun _ => True) (.slice (some ad145) t142.length co4) t142) ∧ Aside0 (Below w.heap.size w wc))
      case first =>
       have H := HC8.out
       clear HC8
       replace H := Option.bind_eq_some_iff.mp H
       obtain ⟨t146, A90, H⟩ := H
       replace H : (if t146 = true then (if ((rdOf ByteArray.empty t142 x8_1).size : Int) > 1 then (if 0 < ((rdOf ByteArray.empty t142 x8_1).size : Int) then (spec_PreKind.j1 k1 (rdOf ByteArray.empty t142 x8_1) t142 (t142.length : Int) x8_1 ((bt (rdOf ByteArray.empty t142 x8_1) 0) == 48)) else (none)) else (spec_PreKind.j1 k1 (rdOf ByteArray.empty t142 x8_1) t142 (t142.length : Int) x8_1 false)) else (spec_PreKind.j1 k1 (rdOf ByteArray.empty t142 x8_1) t142 (t142.length : Int) x8_1 false)) = some r := H
       have A9 := Aside0.mk A90
       clear A90
       by_cases c10 : t146 = true
       ·
        subst c10
        have H1 : (if ((rdOf ByteArray.empty t142 x8_1).size : Int) > 1 then (if 0 < ((rdOf ByteArray.empty t142 x8_1).size : Int) then (spec_PreKind.j1 k1 (rdOf ByteArray.empty t142 x8_1) t142 (t142.length : Int) x8_1 ((bt (rdOf ByteArray.empty t142 x8_1) 0) == 48)) else (none)) else (spec_PreKind.j1 k1 (rdOf ByteArray.empty t142 x8_1) t142 (t142.length : Int) x8_1 false)) = some r := by rw [if_pos rfl] at H; exact H
        clear H
        have H := H1
        clear H1
        by_cases c11 : ((rdOf ByteArray.empty t142 x8_1).size : Int) > 1
        ·
         rw [if_pos c11] at H
         have c11b0 : decide (1 < ((rdOf ByteArray.empty t142 x8_1).size : Int)) = true := decide_eq_true c11
         have c11b1 : decide (1 < (rdOf ByteArray.empty t142 x8_1).size) = true := decide_eq_true (by omega)
         clear c11
         (first | rw [c11b0] | (simp only [i64_w, i32_w]; rw [c11b0]) | skip)
         by_cases c12 : 0 < ((rdOf ByteArray.empty t142 x8_1).size : Int)
         ·
          rw [if_pos c12] at H
          have c12b0 : decide (0 < ((rdOf ByteArray.empty t142 x8_1).size : Int)) = true := decide_eq_true c12
          have c12b1 : decide (0 < (rdOf ByteArray.empty t142 x8_1).size) = true := decide_eq_true (by omega)
          clear c12
          have H' := Aside0.mk H
          clear H
          go_wp2_with (first | ((with_reducible refine gate_callee (f := 23) rfl ?_); refine goesL_ (some 14) rfl rfl Tryd.func23 (by kernel_rfl) rfl #[.string (rdOf ByteArray.empty t142 x8_1)] rfl (by (try simp only [List.map_toArray, List.map_cons, List.map_nil]); first | done | rfl | (simp only [List.length_drop, List.length_take]; rfl)) ?_; (with_reducible refine (spec_Digits.calls k1 (rdOf ByteArray.empty t142 x8_1) true _ A9.out).mono ?_); rintro e w' ⟨rfl, ⟨nd, rfl⟩⟩; refine ⟨_, rfl, ?_⟩; have p13 : 0 ≤ (0 : Int) := (by omega); have q13 : 0 < (rdOf ByteArray.empty t142 x8_1).size := (by have : (0 : Int) < ((rdOf ByteArray.empty t142 x8_1).size : Int) := of_decide_eq_true (by first | (with_reducible assumption) | assumption); omega); have hx13 : ∀ h : 0 < (rdOf ByteArray.empty t142 x8_1).size, (((rdOf ByteArray.empty t142 x8_1)[0]'h).toNat : Int) = bt (rdOf ByteArray.empty t142 x8_1) 0 := bt_at (rdOf ByteArray.empty t142 x8_1) 0; clear p13; have qi13 : (0 < ((rdOf ByteArray.empty t142 x8_1).size : Int)) = True := eq_true (of_decide_eq_true (by first | (with_reducible assumption) | assumption)); replace q13 := eq_true q13))
          go_meet
          case rel => exact ⟨_, (((bt (rdOf ByteArray.empty t142 x8_1) 0) == 48)), (by first | rfl | (simp; done) | (simp [*]; done)), H', ⟨by have := HK1.out; first | omega | exact Nat.le_refl _⟩, ⟨by (with_reducible repeat (first | apply Kd.R_alloc | apply Kd.R_drewN | apply Kd.R_drew)); exact HO_6.out⟩, ⟨by repeat (first | (with_reducible first | exact HB.out | apply below_alloc | apply pw_below_drewN | apply below_drew1) | exact HB.out)⟩⟩
         ·
          rw [if_neg c12] at H
          exact absurd H (by simp)
        ·
         rw [if_neg c11] at H
         have c11b0 : decide (1 < ((rdOf ByteArray.empty t142 x8_1).size : Int)) = false := decide_eq_false c11
         have c11b1 : decide (1 < (rdOf ByteArray.empty t142 x8_1).size) = false := decide_eq_false (by omega)
         clear c11
         (first | rw [c11b0] | (simp only [i64_w, i32_w]; rw [c11b0]) | skip)
         have H' := Aside0.mk H
         clear H
         go_wp2_with (first | ((with_reducible refine gate_callee (f := 23) rfl ?_); refine goesL_ (some 14) rfl rfl Tryd.func23 (by kernel_rfl) rfl #[.string (rdOf ByteArray.empty t142 x8_1)] rfl (by (try simp only [List.map_toArray, List.map_cons, List.map_nil]); first | done | rfl | (simp only [List.length_drop, List.length_take]; rfl)) ?_; (with_reducible refine (spec_Digits.calls k1 (rdOf ByteArray.empty t142 x8_1) true _ A9.out).mono ?_); rintro e w' ⟨rfl, ⟨nd, rfl⟩⟩; refine ⟨_, rfl, ?_⟩))
         go_meet
         case rel => exact ⟨_, (false), (by first | rfl | (simp; done) | (simp [*]; done)), H', ⟨by have := HK1.out; first | omega | exact Nat.le_refl _⟩, ⟨by (with_reducible repeat (first | apply Kd.R_alloc | apply Kd.R_drewN | apply Kd.R_drew)); exact HO_6.out⟩, ⟨by repeat (first | (with_reducible first | exact HB.out | apply below_alloc | apply pw_below_drewN | apply below_drew1) | exact HB.out)⟩⟩
       ·
        replace c10 := Bool.eq_false_iff.mpr c10
        subst c10
        have H1 : (spec_PreKind.j1 k1 (rdOf ByteArray.empty t142 x8_1) t142 (t142.length : Int) x8_1 false) = some r := by rw [if_neg (show ¬ (false = true) by decide)] at H; exact H
        clear H
        have H := H1
        clear H1
        have H' := Aside0.mk H
        clear H
        go_wp2_with (first | ((with_reducible refine gate_callee (f := 23) rfl ?_); refine goesL_ (some 14) rfl rfl Tryd.func23 (by kernel_rfl) rfl #[.string (rdOf ByteArray.empty t142 x8_1)] rfl (by (try simp only [List.map_toArray, List.map_cons, List.map_nil]); first | done | rfl | (simp only [List.length_drop, List.length_take]; rfl)) ?_; (with_reducible refine (spec_Digits.calls k1 (rdOf ByteArray.empty t142 x8_1) false _ A9.out).mono ?_); rintro e w' ⟨rfl, ⟨nd, rfl⟩⟩; refine ⟨_, rfl, ?_⟩))
        go_meet
        case rel => exact ⟨_, (false), (by first | rfl | (simp; done) | (simp [*]; done)), H', ⟨by have := HK1.out; first | omega | exact Nat.le_refl _⟩, ⟨by (with_reducible repeat (first | apply Kd.R_alloc | apply Kd.R_drewN | apply Kd.R_drew)); exact HO_6.out⟩, ⟨by repeat (first | (with_reducible first | exact HB.out | apply below_alloc | apply pw_below_drewN | apply below_drew1) | exact HB.out)⟩⟩
      case rest =>
       clear HC8
       try clear c1
       try clear p1
       try clear q1
       try clear hx1
       try clear qi1
       try clear c2
       try clear p2
       try clear c5
       try clear c5b0
       try clear c6
       try clear c6b0
       try clear c7
       try clear c7b0
       try clear c10
       try clear c11
       try clear c11b0
       try clear c11b1
       try clear c12
       try clear c12b0
       try clear c12b1
       try clear p13
       try clear q13
       try clear hx13
       try clear qi13
       try clear hx145_0
       try clear p13
       try clear p145
       try clear p2
       try clear q13
       try clear q145
       obtain ⟨kq, x12_7, rfl, HA, HJ7, HO_6, HB⟩ := hcut
       cases kq with
       | zero => exact absurd HA.out (by simp [spec_PreKind.j1])
       | succ kj7 =>
        have H := HA.out
        clear HA
        simp only [spec_PreKind.j1] at H
        by_cases c14 : x12_7 = true
        ·
         subst c14
         have H1 : (some 4) = some r := by rw [if_pos rfl] at H; exact H
         clear H
         have H := H1
         clear H1
         obtain rfl := Option.some.inj H
         go_wp2
         go_ret
         exact ⟨by first | rfl | (simp [errW_none, errW_some] <;> rfl) | (simp [*, errW_none, errW_some] <;> rfl) | (simp [bneNil]; done), by repeat (first | (with_reducible first | exact HB.out | apply below_alloc | apply pw_below_drewN | apply below_drew1) | exact HB.out)⟩
        ·
         replace c14 := Bool.eq_false_iff.mpr c14
         subst c14
         have H1 : ((spec_ValidIdent.f kj7 (rdOf ByteArray.empty t142 x8_1)).bind fun t147 => (if t147 = true then (spec_PreKind.l0 kj7 t142 (t142.length : Int) (wrap64 (x8_1 + 1))) else (some 5))) = some r := by rw [if_neg (show ¬ (false = true) by decide)] at H; exact H
         clear H
         have H := H1
         clear H1
         replace H := Option.bind_eq_some_iff.mp H
         obtain ⟨t147, A150, H⟩ := H
         replace H : (if t147 = true then (spec_PreKind.l0 kj7 t142 (t142.length : Int) (wrap64 (x8_1 + 1))) else (some 5)) = some r := H
         have A15 := Aside0.mk A150
         clear A150
         by_cases c16 : t147 = true
         ·
          subst c16
          have H1 : (spec_PreKind.l0 kj7 t142 (t142.length : Int) (wrap64 (x8_1 + 1))) = some r := by rw [if_pos rfl] at H; exact H
          clear H
          have H := H1
          clear H1
          have H' := Aside0.mk H
          clear H
          go_wp2_with (first | ((with_reducible refine gate_callee (f := 15) rfl ?_); refine goesL_ (some 27) rfl rfl Tryd.func15 (by kernel_rfl) rfl #[.string (rdOf ByteArray.empty t142 x8_1)] rfl (by (try simp only [List.map_toArray, List.map_cons, List.map_nil]); first | done | rfl | (simp only [List.length_drop, List.length_take]; rfl)) ?_; (with_reducible refine (spec_ValidIdent.calls kj7 (rdOf ByteArray.empty t142 x8_1) true _ A15.out).mono ?_); rintro e w' ⟨rfl, ⟨nd, rfl⟩⟩; refine ⟨_, rfl, ?_⟩))
          go_roundg kj7
          case measure => have := HK1.out; have := HJ7.out; omega
          case rel => exact ⟨(wrap64 (x8_1 + 1)), (by first | rfl | (simp; done) | (simp [*]; done)), H', ⟨by have := HK1.out; have := HJ7.out; omega⟩, ⟨by (with_reducible repeat (first | apply Kd.R_alloc | apply Kd.R_drewN | apply Kd.R_drew)); exact HO_6.out⟩, ⟨by repeat (first | (with_reducible first | exact HB.out | apply below_alloc | apply pw_below_drewN | apply below_drew1) | exact HB.out)⟩⟩
         ·
          replace c16 := Bool.eq_false_iff.mpr c16
          subst c16
          have H1 : (some 5) = some r := by rw [if_neg (show ¬ (false = true) by decide)] at H; exact H
          clear H
          have H := H1
          clear H1
          obtain rfl := Option.some.inj H
          go_wp2_with (first | ((with_reducible refine gate_callee (f := 15) rfl ?_); refine goesL_ (some 27) rfl rfl Tryd.func15 (by kernel_rfl) rfl #[.string (rdOf ByteArray.empty t142 x8_1)] rfl (by (try simp only [List.map_toArray, List.map_cons, List.map_nil]); first | done | rfl | (simp only [List.length_drop, List.length_take]; rfl)) ?_; (with_reducible refine (spec_ValidIdent.calls kj7 (rdOf ByteArray.empty t142 x8_1) false _ A15.out).mono ?_); rintro e w' ⟨rfl, ⟨nd, rfl⟩⟩; refine ⟨_, rfl, ?_⟩))
          go_ret
          exact ⟨by first | rfl | (simp [errW_none, errW_some] <;> rfl) | (simp [*, errW_none, errW_some] <;> rfl) | (simp [bneNil]; done), by repeat (first | (with_reducible first | exact HB.out | apply below_alloc | apply pw_below_drewN | apply below_drew1) | exact HB.out)⟩
     ·
      rw [if_neg c7] at H
      exact absurd H (by simp)
    ·
     rw [if_neg c6] at H
     exact absurd H (by simp)
   ·
    rw [if_neg c5] at H
    have c5b0 : decide (x8_1 < (t142.length : Int)) = false := decide_eq_false c5
    clear c5
    obtain rfl := Option.some.inj H
    go_wp2
    go_ret
    exact ⟨by first | rfl | (simp [errW_none, errW_some] <;> rfl) | (simp [*, errW_none, errW_some] <;> rfl) | (simp [bneNil]; done), by repeat (first | (with_reducible first | exact HB.out | apply below_alloc | apply pw_below_drewN | apply below_drew1) | exact HB.out)⟩

end Go.Proofs.YtnncjgoogjookaaDoor.PX
