/- The statement FnRefFamiliarTwice: what the inner making of familiar names gives it does not change again. For every domain and path. -/
import Derived.Test.YtekmeoemnekmcaaFam
import Derived.Test.YtekmeoemnekmcaaRows
import Derived.ProofKit
import Derived.OpenShut
import Derived.ShutString
import Derived.BigQuiet
import Derived.Deep.QuietTactic
import Derived.SizedLaws
namespace Go.Proofs.Ytekmeoemnekmcaa.Fam
open Go.RowKit Go.Lib Go.Proofs Go.Proofs.Ytekmeoemnekmcaa.Base
attribute [local go_sem] setCell_drewN alloc_drewN

def fd (d : ByteArray) : ByteArray := if d.toList = hub then ⟨#[]⟩ else d
def fp (d p : ByteArray) : ByteArray := if d.toList = hub then pth p else p
theorem fam_any (d p : ByteArray) (w : World) :
    Calls Try.prog 6 #[.iface 26 (.agg #[.string d, .string p])] w fun e w' => e = .returned (.agg #[.string (fd d), .string (fp d p)]) ∧ Below w.heap.size w w' := by
  by_cases h : d.toList = hub
  · unfold fd fp; rw [if_pos h, if_pos h]; exact fam_hub d p h w
  · unfold fd fp; rw [if_neg h, if_neg h]; exact fam_other d p h w

set_option maxHeartbeats 1000000 in
theorem zz (d p : ByteArray) (w : World) :
    Calls Try.prog 5 #[.string d, .string p] w fun e w' => e = .returned (.tuple #[.string (fd d), .string (fp d p)]) ∧ Below w.heap.size w w' := by
  have C := Lib.hid (fun W => fam_any d p W)
  generalize fd d = x at *
  generalize fp d p = y at *
  go_enter Try.func5, Try.ntmps5
  go_wp2_with (go_at_call 6; refine (C.out _).mono ?_; rintro e w' ⟨rfl, hb2⟩)
  go_quiet (fail)
  go_wp2
  go_ret2
  have := hb2.size
  exact ⟨rfl, by refine dN ?_ _; first | (go_grown; omega) | (go_grown; done)⟩

set_option maxHeartbeats 1000000 in
theorem impl (d p : ByteArray) (w : World) :
    Calls Try.prog 4 #[.string d, .string p] w fun e w' => e = .returned (.tuple #[.string (fd d), .string (fp d p)]) ∧ Below w.heap.size w w' := by
  have C := Lib.hid (fun W => zz d p W)
  generalize fd d = x at *
  generalize fp d p = y at *
  go_enter Try.func4, Try.ntmps4
  go_wp2_with (go_at_call 5; refine (C.out _).mono ?_; rintro e w' ⟨rfl, hb2⟩)
  go_ret2
  exact ⟨rfl, hb2⟩

set_option maxHeartbeats 1000000 in
set_option maxRecDepth 100000 in
/-- Too long a domain or path: nothing is asked. -/
theorem walk_long (d p : ByteArray) (w0 : d.size ≤ 140737488351232) (w1 : p.size ≤ 140737488351232) (h : ¬ (d.size + p.size ≤ 65536)) (w : World) :
    Calls Try.prog 3 #[.string d, .string p] w fun e w' => e = .returned (.bool true) ∧ Below w.heap.size w w' := by
  by_cases hd : 2147483647 < d.size
  · have b1 : decide (2147483647 < (d.size : Int)) = true := decide_eq_true (by omega)
    go_enter Try.func3, Try.ntmps3
    go_wp2
    go_ret
    exact ⟨rfl, Below.refl _ _⟩
  · have b1 : decide (2147483647 < (d.size : Int)) = false := decide_eq_false (by omega)
    by_cases hp : 2147483647 < p.size
    · have b2 : decide (2147483647 < (p.size : Int)) = true := decide_eq_true (by omega)
      go_enter Try.func3, Try.ntmps3
      go_wp2
      go_ret
      exact ⟨rfl, Below.refl _ _⟩
    · have b2 : decide (2147483647 < (p.size : Int)) = false := decide_eq_false (by omega)
      have b3 : decide (65536 < (d.size : Int) + (p.size : Int)) = true := decide_eq_true (by omega)
      go_enter Try.func3, Try.ntmps3
      go_wp2
      go_ret
      exact ⟨rfl, Below.refl _ _⟩

set_option maxHeartbeats 1000000 in
set_option maxRecDepth 100000 in
theorem walk_other (d p : ByteArray) (h : d.toList ≠ hub) (hs : d.size + p.size ≤ 65536) (w : World) :
    Calls Try.prog 3 #[.string d, .string p] w fun e w' => e = .returned (.bool true) ∧ Below w.heap.size w w' := by
  have C := Lib.hid (fun W => impl d p W)
  have e1 : fd d = d := by simp [fd, h]
  have e2 : fp d p = p := by simp [fp, h]
  rw [e1, e2] at C
  clear e1 e2 h
  have b1 : decide (2147483647 < (d.size : Int)) = false := decide_eq_false (by omega)
  have b2 : decide (2147483647 < (p.size : Int)) = false := decide_eq_false (by omega)
  have b3 : decide (65536 < (d.size : Int) + (p.size : Int)) = false := decide_eq_false (by omega)
  have c1 : (d.toList == d.toList) = true := beq_self_eq_true _
  have c2 : (p.toList == p.toList) = true := beq_self_eq_true _
  go_enter Try.func3, Try.ntmps3
  go_wp2_with fail
  refine (C.out _).mono ?_
  rintro e w1 ⟨rfl, hb1⟩
  go_wp2_with fail
  refine (C.out _).mono ?_
  rintro e w2 ⟨rfl, hb2⟩
  go_wp2_with fail
  go_ret
  exact ⟨rfl, hb1.trans (hb2.mono hb1.size)⟩

set_option maxHeartbeats 1000000 in
set_option maxRecDepth 100000 in
theorem walk_hub (d p : ByteArray) (h : d.toList = hub) (hs : d.size + p.size ≤ 65536) (w : World) :
    Calls Try.prog 3 #[.string d, .string p] w fun e w' => e = .returned (.bool true) ∧ Below w.heap.size w w' := by
  have e1 : fd d = ⟨#[]⟩ := by simp [fd, h]
  have e2 : fp d p = pth p := by simp [fp, h]
  have C1 := fun W => impl d p W
  rw [e1, e2] at C1
  have C2 := fun W => impl ⟨#[]⟩ (pth p) W
  have e3 : fd ⟨#[]⟩ = ⟨#[]⟩ := by unfold fd; rw [if_neg (by rw [ByteArray.toList_eq]; decide)]
  have e4 : fp ⟨#[]⟩ (pth p) = pth p := by unfold fp; rw [if_neg (by rw [ByteArray.toList_eq]; decide)]
  rw [e3, e4] at C2
  clear e1 e2 e3 e4
  have c1 : (d.toList == [100, 111, 99, 107, 101, 114, 46, 105, 111]) = true := beq_iff_eq.2 h
  have c4 : ([] == d.toList) = false := by rw [h]; rfl
  clear h
  generalize pth p = q at *
  have c2 : (q.toList == q.toList) = true := beq_self_eq_true _
  have D1 := Lib.hid C1
  have D2 := Lib.hid C2
  clear C1 C2
  have b1 : decide (2147483647 < (d.size : Int)) = false := decide_eq_false (by omega)
  have b2 : decide (2147483647 < (p.size : Int)) = false := decide_eq_false (by omega)
  have b3 : decide (65536 < (d.size : Int) + (p.size : Int)) = false := decide_eq_false (by omega)
  go_enter Try.func3, Try.ntmps3
  go_wp2_with fail
  refine (D1.out _).mono ?_
  rintro e w1 ⟨rfl, hb1⟩
  go_wp2_with fail
  refine (D2.out _).mono ?_
  rintro e w2 ⟨rfl, hb2⟩
  go_wp2_with fail
  go_ret
  exact ⟨rfl, hb1.trans (hb2.mono hb1.size)⟩

theorem walk (d p : ByteArray) (w0 : d.size ≤ 140737488351232) (w1 : p.size ≤ 140737488351232) (w : World) :
    Calls Try.prog 3 #[.string d, .string p] w fun e w' => e = .returned (.bool true) ∧ Below w.heap.size w w' := by
  by_cases hs : d.size + p.size ≤ 65536
  · by_cases h : d.toList = hub
    · exact walk_hub d p h hs w
    · exact walk_other d p h hs w
  · exact walk_long d p w0 w1 hs w

theorem own : ownKnob Try.prog.godebug = none := by kernel_rfl
open Go.ChangeShapes Go.WideShapes Go.ChangeAt
open Go.ChangeMaps (open_string shut_string)
set_option maxRecDepth 100000 in
theorem lifted (os : Os) (started : os.Started) (H : Type) (enc : TypeId × Value → H) :
    ReturnsInHanded {} Try.checked os 3 .any (Rows.fnRefFamiliarTwiceSpec.pre6 enc Try.prog Try.f3 Rows.fnRefFamiliarTwiceRow.domain false) (Rows.fnRefFamiliarTwiceSpec.post enc Try.prog Try.f3 false true false false) := by
  refine returnsInHanded_of_change_sized (C := Try.checked) own started (by kernel_rfl) Try.func3
    (ChangeSpec.witness6 (enc := enc) (C := Try.checked) false ⟨#[], #[.string ByteArray.empty, .string ByteArray.empty], []⟩ 8 (by kernel_rfl) (by kernel_rfl) (by kernel_rfl) (by kernel_rfl)) ?_
  intro W base args ds gs before hval0 hW hcnd hsz0 _
  have hsz : (DataW.weightsEach Try.prog (Try.f3.params.toList ++ Rows.fnRefFamiliarTwiceSpec.plain.varTypes Try.prog) (ds ++ gs)).all (· ≤ reachBytes) = true := hsz0
  have hval : ∀ (j : Nat) t v, Try.f3.params[j]? = some t → args[j]? = some v → Value.okWide Try.prog W .any base t v := hval0
  have hW' := hW
  obtain ⟨p, q, hA0, hV, rfl, hfz, hnd⟩ := hW
  have hA : DataW.TrodAll enc Try.prog W 0 (fun _ => true) true Try.f3.params.toList args.toList ds p := hA0
  rw [Try.params3] at hA hval hsz
  obtain ⟨v0, vs0, d0, ds0, p0, q0, hargs, rfl, rfl, h0, r0⟩ := trodAll_cons hA
  obtain ⟨v1, vs1, d1, ds1, p1, q1, rfl, rfl, rfl, h1, r1⟩ := trodAll_cons r0
  obtain ⟨rfl, rfl, rfl⟩ := trodAll_nil r1
  obtain rfl : args = #[v0, v1] := by cases args; simp_all
  obtain ⟨rfl, rfl⟩ := trodVars_none hV
  obtain ⟨a0, rfl, rfl, rfl, y0⟩ := open_string Try.underlying9 (hval 0 9 v0 rfl rfl) h0
  have z0 : a0.size ≤ 140737488351232 := by
    have z := sized_string hsz (j := 0) (t := 9) rfl rfl
    rw [Array.length_toList] at z
    exact z
  obtain ⟨a1, rfl, rfl, rfl, y1⟩ := open_string Try.underlying9 (hval 1 9 v1 rfl rfl) h1
  have z1 : a1.size ≤ 140737488351232 := by
    have z := sized_string hsz (j := 1) (t := 9) rfl rfl
    rw [Array.length_toList] at z
    exact z
  clear hA0 hval0 hsz0 hsz
  refine (walk a0 a1 z0 z1 W).mono fun e W' ⟨he, bel⟩ => ?_
  subst he
  exact ⟨_, rfl, _, _, _, [], _, [], hW', trodAll_mk1 (shut_bool Try.underlying4 _), (trodAll_cons_mk (shut_string Try.underlying9 y0) (trodAll_cons_mk (shut_string Try.underlying9 y1) trodAll_mk0)), rfl, bel.frame _, fun h => by cases h⟩

theorem over : Rows.fnRefFamiliarTwiceRow.holds Try.pinned (OpenSpec.ofChange Rows.fnRefFamiliarTwiceSpec) :=
  OpenClaim.holds_of_wide 3 Try.f3 rfl rfl rfl rfl rfl rfl rfl ⟨rfl, rfl, rfl, rfl, rfl⟩ rfl rfl rfl rfl rfl (by kernel_rfl) Try.func3 (by kernel_rfl)
    (of_decide_eq_true (by kernel_rfl)) (by unfold Func.isWrapper; first | (rw [if_pos (by decide +kernel)]; kernel_rfl) | (rw [if_neg (by decide +kernel)]; exact ⟨rfl, rfl⟩))
    (fun os started H enc _ => lifted os started H enc)
end Go.Proofs.Ytekmeoemnekmcaa.Fam
namespace Go.Proofs.Ytekmeoemnekmcaa
theorem familiar_twice_holds : Rows.FnRefFamiliarTwiceSaid := Fam.over
#print axioms familiar_twice_holds
end Go.Proofs.Ytekmeoemnekmcaa
