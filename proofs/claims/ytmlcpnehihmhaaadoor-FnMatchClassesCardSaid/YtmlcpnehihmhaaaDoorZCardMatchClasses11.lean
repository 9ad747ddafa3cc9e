/- The row and the tied card of FnMatchClasses, out of its printed walk and its plain law. For every input that the statement lets in. -/
import Derived.Test.YtmlcpnehihmhaaaDoorZCardMatchClasses8
import Derived.Test.YtmlcpnehihmhaaaDoorZCardMatchClasses10
import Derived.Stop.Asserts
import Derived.Deep.QuietTactic
import Derived.BigQuiet
namespace Go.Proofs.YtmlcpnehihmhaaaDoor.Base
end Go.Proofs.YtmlcpnehihmhaaaDoor.Base
namespace Go.Proofs.YtmlcpnehihmhaaaDoor.Bt
end Go.Proofs.YtmlcpnehihmhaaaDoor.Bt
namespace Go.Proofs.YtmlcpnehihmhaaaDoor.Gr
end Go.Proofs.YtmlcpnehihmhaaaDoor.Gr
namespace Go.Proofs.YtmlcpnehihmhaaaDoor.L
end Go.Proofs.YtmlcpnehihmhaaaDoor.L
namespace Go.Proofs.YtmlcpnehihmhaaaDoor.Mt
end Go.Proofs.YtmlcpnehihmhaaaDoor.Mt
namespace Go.Proofs.YtmlcpnehihmhaaaDoor.Mt

open Go Go.RowKit Go.Lib Go.Proofs Go.Proofs.YtmlcpnehihmhaaaDoor Go.Proofs.YtmlcpnehihmhaaaDoor.Base Go.Proofs.YtmlcpnehihmhaaaDoor.L Go.Proofs.YtmlcpnehihmhaaaDoor.Bt Go.Proofs.YtmlcpnehihmhaaaDoor.Gr

open Go.Proofs.YtmlcpnehihmhaaaDoorW.PrintWords Go.Proofs.YtmlcpnehihmhaaaDoorW.PrintLast Go.Proofs.YtmlcpnehihmhaaaDoorW.PrintMore

attribute [local go_sem] setCell_drewN alloc_drewN

set_option linter.unusedVariables false

abbrev E : ByteArray := ⟨#[]⟩

set_option maxHeartbeats 2000000 in
theorem famW (p : ByteArray) (w : World) :
    Calls Tryd.prog 41 #[.iface 49 (repo E p)] w fun e w' => e = .returned (repo E p) ∧ Below w.heap.size w w' := by
  have hm : ∀ w : World, (method 52 49 (.agg #[.string E, .string p]) "Domain").run Tryd.prog w = .ok (37, .agg #[.string E, .string p]) w := fun _ => by kernel_rfl
  have hn : ∀ w : World, (method 52 49 (.agg #[.string E, .string p]) "Path").run Tryd.prog w = .ok (59, .agg #[.string E, .string p]) w := fun _ => by kernel_rfl
  go_enter Tryd.func41, Tryd.ntmps41
  go_wp2
  exact bodyPost_ret (v := .agg #[.string E, .string p]) (by simp [results, Tryd.results41, go_sem]) rfl ⟨rfl, by first | (go_grown; done) | ((with_reducible refine dN ?_ _); go_grown)⟩

set_option maxHeartbeats 2000000 in
theorem famRW (p : ByteArray) (w : World) :
    Calls Tryd.prog 38 #[repo E p] w fun e w' => e = .returned (.iface 49 (repo E p)) ∧ Below w.heap.size w w' := by
  have C := Lib.hid (fun W => famW p W)
  go_enter Tryd.func38, Tryd.ntmps38
  go_wp2_with (go_at_call 41; (with_reducible refine (C.out _).mono ?_); rintro e w1 ⟨rfl, hb⟩)
  go_ret
  exact ⟨rfl, ((Below.refl _ w).alloc (Nat.le_refl _) _).trans (hb.mono (by simp))⟩

theorem normT (v : Value) (w : World) : (Instr.typeAssert (.iface 49 v) 34 60 true).run Tryd.prog w = .ok (.tuple #[.iface 49 v, .bool true]) w :=
  run_typeAssert_hasB Tryd.underlying60 (by kernel_rfl) v _ w

theorem normN (v : Value) (w : World) : (Instr.typeAssert (.iface 49 v) 44 60 true).run Tryd.prog w = .ok (.tuple #[.iface 49 v, .bool true]) w :=
  run_typeAssert_hasB Tryd.underlying60 (by kernel_rfl) v _ w

theorem isNamed (v : Value) (w : World) : (Instr.typeAssert (.iface 49 v) 34 44 true).run Tryd.prog w = .ok (.tuple #[.iface 49 v, .bool true]) w :=
  run_typeAssert_hasB Tryd.underlying44 (by kernel_rfl) v _ w

theorem nameE (p : ByteArray) : nameT E p = p := by unfold nameT; rw [if_pos (show E.toList = [] from by rw [ByteArray.toList_eq])]

set_option maxHeartbeats 2000000 in
theorem famStrW (p : ByteArray) (hp : p.size ≤ 1099511627776) (w : World) :
    Calls Tryd.prog 13 #[.iface 49 (repo E p)] w fun e w' => e = .returned (.string p) ∧ Below w.heap.size w w' := by
  have C := Lib.hid (fun W => famRW p W)
  have D := Lib.hid (fun W => repoTextW E p (by decide) hp W)
  rw [nameE] at D
  have hT := normT
  clear hp
  go_enter Tryd.func13, Tryd.ntmps13
  go_wp2_with (first
    | (go_at_call 38; (with_reducible refine (C.out _).mono ?_); rintro e w1 ⟨rfl, hb⟩)
    | (go_at_call 40; (with_reducible refine (D.out _).mono ?_); rintro e w2 ⟨rfl, hb2⟩))
  go_ret
  exact ⟨rfl, hb.trans (hb2.mono hb.size)⟩

set_option maxHeartbeats 2000000 in
theorem famNameW (p : ByteArray) (hp : p.size ≤ 1099511627776) (w : World) :
    Calls Tryd.prog 14 #[.iface 49 (repo E p)] w fun e w' => e = .returned (.string p) ∧ Below w.heap.size w w' := by
  have C := Lib.hid (fun W => famRW p W)
  have D := Lib.hid (fun W => nameW E p (by decide) hp W)
  rw [nameE] at D
  have hT := normN
  clear hp
  go_enter Tryd.func14, Tryd.ntmps14
  go_wp2_with (first
    | (go_at_call 38; (with_reducible refine (C.out _).mono ?_); rintro e w1 ⟨rfl, hb⟩)
    | (go_at_call 39; (with_reducible refine (D.out _).mono ?_); rintro e w2 ⟨rfl, hb2⟩))
  go_ret
  exact ⟨rfl, hb.trans (hb2.mono hb.size)⟩

/-- A class and a name that are asked. -/
structure Ask (L : List Rg) (x : UInt8) (xs : List UInt8) (c s : ByteArray) : Prop where
  hx : x.toNat < 128
  hL : L ≠ []
  hl : L.length ≤ 1000
  hA : ∀ p ∈ L, p.1.toNat < 128 ∧ p.2.toNat < 128
  hc : bl c = 91 :: enc L
  hs : bl s = x :: xs
  hz : s.size ≤ 1099511627776

theorem Ask.match {L : List Rg} {x : UInt8} {xs : List UInt8} {c s : ByteArray} (h : Ask L x xs c s) (w : World) :
    Calls Tryd.prog 12 #[.string c, .string s] w fun e w' => e = .returned (.tuple #[.bool (mB L x xs), .nilIface]) ∧ w = w' := matchW L x xs h.hx h.hL h.hl h.hA c s h.hc h.hs w

set_option maxHeartbeats 2000000 in
theorem famMatchW {L : List Rg} {x : UInt8} {xs : List UInt8} {c s : ByteArray} (h : Ask L x xs c s) (w : World) :
    Calls Tryd.prog 10 #[.string c, .iface 49 (repo E s)] w fun e w' => e = .returned (.tuple #[.bool (mB L x xs), .nilIface]) ∧ Below w.heap.size w w' := by
  have C := Lib.hid (fun W => famStrW s h.hz W)
  have D := Lib.hid (fun W => famNameW s h.hz W)
  have M := Lib.hid (fun W => h.match W)
  have hT := isNamed
  clear h
  cases hm : mB L x xs with
  | true =>
    rw [hm] at M
    go_enter Tryd.func10, Tryd.ntmps10
    go_wp2_with (first
      | (go_at_call 13; (with_reducible refine (C.out _).mono ?_); rintro e w1 ⟨rfl, hb⟩)
      | (go_at_call 12; (with_reducible refine (M.out _).mono ?_); rintro e w2 ⟨rfl, rfl⟩))
    go_ret2
    exact ⟨rfl, hb⟩
  | false =>
    rw [hm] at M
    go_enter Tryd.func10, Tryd.ntmps10
    go_wp2_with (first
      | (go_at_call 13; (with_reducible refine (C.out _).mono ?_); rintro e w1 ⟨rfl, hb⟩)
      | (go_at_call 14; (with_reducible refine (D.out _).mono ?_); rintro e w3 ⟨rfl, hb3⟩)
      | (go_at_call 12; (with_reducible refine (M.out _).mono ?_); rintro e w2 ⟨rfl, rfl⟩))
    go_ret2
    exact ⟨rfl, hb.trans (hb3.mono hb.size)⟩

set_option maxHeartbeats 2000000 in
theorem refMatchW {L : List Rg} {x : UInt8} {xs : List UInt8} {c s : ByteArray} (h : Ask L x xs c s) (w : World) :
    Calls Tryd.prog 8 #[.string c, .agg #[.string E, .string s, .string E, .string E]] w fun e w' => e = .returned (.tuple #[.bool (mB L x xs), .bool true]) ∧ Below w.heap.size w w' := by
  have hne : ¬ s.toList = [] := by rw [ByteArray.toList_eq]; show ¬ bl s = []; rw [h.hs]; simp
  have hE : E.toList = [] := by rw [ByteArray.toList_eq]
  have C := Lib.hid (show ∀ W : World, Calls Tryd.prog 9 #[.agg #[.string E, .string s, .string E, .string E]] W fun e w' => e = .returned (.iface 49 (repo E s)) ∧ Below W.heap.size W w' from fun W => by
    have := refW E s E E (by decide) h.hz hne W
    unfold bestV at this
    rw [if_pos hE, if_pos hE] at this
    exact this)
  have M := Lib.hid (fun W => famMatchW h W)
  clear h hne hE
  generalize mB L x xs = R at *
  go_enter Tryd.func8, Tryd.ntmps8
  go_wp2_with (first
    | (go_at_call 9; (with_reducible refine (C.out _).mono ?_); rintro e w1 ⟨rfl, hb⟩)
    | (go_at_call 10; (with_reducible refine (M.out _).mono ?_); rintro e w2 ⟨rfl, hb2⟩))
  have HB := Lib.hid (((((Below.refl _ w).alloc (Nat.le_refl _) _).trans (hb.mono (by simp))).trans (hb2.mono (by have := hb.size; simp at this; omega))) : Below w.heap.size w w2)
  clear hb hb2
  clear C M
  cases R with
  | true =>
    go_quiet (fail)
    go_wp2_with fail
    go_ret2
    exact ⟨rfl, dN HB.out _⟩
  | false =>
    go_quiet (fail)
    go_wp2_with fail
    go_ret2
    exact ⟨rfl, dN HB.out _⟩

set_option maxHeartbeats 2000000 in
theorem nameMatchW {L : List Rg} {x : UInt8} {xs : List UInt8} {c s : ByteArray} (h : Ask L x xs c s) (w : World) :
    Calls Tryd.prog 6 #[.string c, .string s] w fun e w' => e = .returned (.tuple #[.bool (mB L x xs), .bool true]) ∧ Below w.heap.size w w' := by
  have M := Lib.hid (fun W => refMatchW h W)
  clear h
  generalize mB L x xs = R at *
  go_enter Tryd.func6, Tryd.ntmps6
  go_wp2_with (go_at_call 8; (with_reducible refine (M.out _).mono ?_); rintro e w1 ⟨rfl, hb⟩)
  go_ret2
  exact ⟨rfl, hb⟩

/-- The ranges that a class's text tells. -/
def dec : List UInt8 → Option (List Rg)
  | [93] => some []
  | 92 :: a :: 45 :: 92 :: b :: r => (dec r).map fun l => (a, b) :: l
  | _ => none

theorem dec_enc : ∀ L : List Rg, dec (enc L) = some L
  | [] => rfl
  | (a, b) :: r => by
    have ih := dec_enc r
    show dec (92 :: a :: 45 :: 92 :: b :: enc r) = _
    rw [dec, ih]; rfl

theorem enc_dec : ∀ (n : Nat) (l : List UInt8) (L : List Rg), l.length ≤ n → dec l = some L → enc L = l := by
  intro n
  induction n with
  | zero =>
    intro l L h e
    have : l = [] := List.length_eq_zero_iff.1 (by omega)
    subst this
    cases e
  | succ n ih =>
    intro l L h e
    unfold dec at e
    split at e
    · cases e; rfl
    · rename_i a b r
      cases hr : dec r with
      | none => rw [hr] at e; cases e
      | some q =>
        rw [hr] at e
        cases e
        have := ih r q (by simp at h; omega) hr
        show 92 :: a :: 45 :: 92 :: b :: enc q = _
        rw [this]
    · cases e

end Go.Proofs.YtmlcpnehihmhaaaDoor.Mt

namespace Go.Proofs.YtmlcpnehihmhaaaDoor.PX

open Go Go.Proofs Go.RowKit Go.Lib Go.Proofs.YtmlcpnehihmhaaaDoor.Mt Go.Proofs.YtmlcpnehihmhaaaDoor.L

def okR (p : Rg) : Bool := decide (p.1.toNat < 128) && decide (p.2.toNat < 128)

def laws_matchName.f (a0 a1 : ByteArray) : Option (Bool × Bool) := match bl a0, bl a1 with
  | 91 :: r, x :: xs => match dec r with
    | some L => if ((x.toNat < 128 ∧ L ≠ []) ∧ (L.length ≤ 1000 ∧ L.all okR = true)) ∧ a1.size ≤ 1099511627776 then some (mB L x xs, true) else none
    | none => none
  | _, _ => none

theorem laws_matchName.calls (a0 a1 : ByteArray) (r1 r2 : Bool) (w : World) (h : laws_matchName.f a0 a1 = some (r1, r2)) :
    Calls Tryd.prog 6 #[.string a0, .string a1] w fun e w' => e = .returned (.tuple #[.bool r1, .bool r2]) ∧ Below w.heap.size w w' := by
  unfold laws_matchName.f at h
  split at h
  · rename_i r x xs h0 h1
    split at h
    · rename_i L hd
      split at h
      · rename_i q
        injection h with h
        injection h with e1 e2
        subst e1 e2
        refine nameMatchW ⟨q.1.1.1, q.1.1.2, q.1.2.1, fun p hp => ?_, ?_, h1, q.2⟩ w
        · have := List.all_eq_true.1 q.1.2.2 p hp
          unfold okR at this
          rw [Bool.and_eq_true, decide_eq_true_eq, decide_eq_true_eq] at this
          exact this
        · rw [h0, enc_dec _ r L (Nat.le_refl _) hd]
      · cases h
    · cases h
  · cases h

end Go.Proofs.YtmlcpnehihmhaaaDoor.PX
