/- The row and the tied card of FnSemverApart, out of its printed walk and its plain law. For every input that the statement lets in. -/
import Derived.Test.YtllkoadcpobdaaaDoorZCardSemverApart17
import Derived.Laws.Cover1
namespace Go.Proofs.YtllkoadcpobdaaaDoor.Base
end Go.Proofs.YtllkoadcpobdaaaDoor.Base
namespace Go.Proofs.YtllkoadcpobdaaaDoor.Parse
end Go.Proofs.YtllkoadcpobdaaaDoor.Parse
namespace Go.Proofs.YtllkoadcpobdaaaDoor.Part

open Go.RowKit Go.Lib Go.Proofs Go.Proofs.YtllkoadcpobdaaaDoor.Base Go.Proofs.YtllkoadcpobdaaaDoor.Parse

/-- How two identifiers compare. -/
def cpp (s o : List UInt8) : Int :=
  if s = o then 0 else if s = [] then -1 else if o = [] then 1 else
  match num s, num o with
  | none, none => if Op.bytesLess s o = true then -1 else 1
  | some _, none => -1
  | none, some _ => 1
  | some a, some b => if b < a then 1 else -1

set_option maxHeartbeats 2000000 in
set_option maxRecDepth 100000 in
theorem part_eq (s o : ByteArray) (he : s.toList = o.toList) (w : World) :
    Calls Tryd.prog 122 #[.string s, .string o] w fun e w' => e = .returned (.int .i64 0) ∧ Below w.heap.size w w' := by
  have b1 : (s.toList == o.toList) = true := beq_iff_eq.2 he
  clear he
  go_enter Tryd.func122, Tryd.ntmps122
  go_wp2
  go_ret
  exact ⟨rfl, Below.refl _ _⟩

set_option maxHeartbeats 2000000 in
set_option maxRecDepth 100000 in
theorem part_se (s o : ByteArray) (he : s.toList ≠ o.toList) (h1 : s.toList = []) (w : World) :
    Calls Tryd.prog 122 #[.string s, .string o] w fun e w' => e = .returned (.int .i64 (-1)) ∧ Below w.heap.size w w' := by
  have b1 : (s.toList == o.toList) = false := beq_eq_false_iff_ne.2 he
  have b2 : (s.toList == []) = true := beq_iff_eq.2 h1
  have b3 : o.toList.isEmpty = false := by cases q : o.toList with | nil => exact absurd (h1.trans q.symm) he | cons => rfl
  clear he h1
  go_enter Tryd.func122, Tryd.ntmps122
  go_wp2
  go_ret
  exact ⟨rfl, Below.refl _ _⟩

set_option maxHeartbeats 2000000 in
set_option maxRecDepth 100000 in
theorem part_oe (s o : ByteArray) (he : s.toList ≠ o.toList) (h1 : s.toList ≠ []) (h2 : o.toList = []) (w : World) :
    Calls Tryd.prog 122 #[.string s, .string o] w fun e w' => e = .returned (.int .i64 1) ∧ Below w.heap.size w w' := by
  have b1 : (s.toList == o.toList) = false := beq_eq_false_iff_ne.2 he
  have b2 : (s.toList == []) = false := beq_eq_false_iff_ne.2 h1
  have b3 : (o.toList == []) = true := beq_iff_eq.2 h2
  have b4 : s.toList.isEmpty = false := by cases q : s.toList with | nil => exact absurd q h1 | cons => rfl
  clear he h1 h2
  go_enter Tryd.func122, Tryd.ntmps122
  go_wp2
  go_ret
  exact ⟨rfl, Below.refl _ _⟩

set_option maxHeartbeats 2000000 in
set_option maxRecDepth 100000 in
theorem part_nn1 (s o : ByteArray) (hs : s.size ≤ 2147483647) (ho : o.size ≤ 2147483647) (he : s.toList ≠ o.toList) (h1 : s.toList ≠ []) (h2 : o.toList ≠ []) (ps : num s.data.toList = none) (po : num o.data.toList = none) (hl : Op.bytesLess s.toList o.toList = true) (w : World) (hw : Std w) :
    Calls Tryd.prog 122 #[.string s, .string o] w fun e w' => e = .returned (.int .i64 (-1)) ∧ Below w.heap.size w w' := by
  have b1 : (s.toList == o.toList) = false := beq_eq_false_iff_ne.2 he
  have b2 : (s.toList == []) = false := beq_eq_false_iff_ne.2 h1
  have b3 : (o.toList == []) = false := beq_eq_false_iff_ne.2 h2
  have C1 := Lib.hid (fun W => parse_err o ho po W)
  have C2 := Lib.hid (fun W => parse_err s hs ps W)
  have HW := Lib.hid hw
  clear he h1 h2 ps po hw
  go_enter Tryd.func122, Tryd.ntmps122
  go_wp2_with fail
  refine (C1.out _ HW.out).mono ?_
  rintro e w1 ⟨x, t, p, rfl, hb1⟩
  have HW1 := Lib.hid (HW.out.below hb1)
  go_wp2_with fail
  refine (C2.out _ HW1.out).mono ?_
  rintro e w2 ⟨x2, t2, p2, rfl, hb2⟩
  go_wp2_with fail
  go_ret
  exact ⟨rfl, hb1.trans (hb2.mono hb1.size)⟩

set_option maxHeartbeats 2000000 in
set_option maxRecDepth 100000 in
theorem part_nn2 (s o : ByteArray) (hs : s.size ≤ 2147483647) (ho : o.size ≤ 2147483647) (he : s.toList ≠ o.toList) (h1 : s.toList ≠ []) (h2 : o.toList ≠ []) (ps : num s.data.toList = none) (po : num o.data.toList = none) (hl : Op.bytesLess s.toList o.toList = false) (w : World) (hw : Std w) :
    Calls Tryd.prog 122 #[.string s, .string o] w fun e w' => e = .returned (.int .i64 1) ∧ Below w.heap.size w w' := by
  have b1 : (s.toList == o.toList) = false := beq_eq_false_iff_ne.2 he
  have b2 : (s.toList == []) = false := beq_eq_false_iff_ne.2 h1
  have b3 : (o.toList == []) = false := beq_eq_false_iff_ne.2 h2
  have C1 := Lib.hid (fun W => parse_err o ho po W)
  have C2 := Lib.hid (fun W => parse_err s hs ps W)
  have HW := Lib.hid hw
  clear he h1 h2 ps po hw
  go_enter Tryd.func122, Tryd.ntmps122
  go_wp2_with fail
  refine (C1.out _ HW.out).mono ?_
  rintro e w1 ⟨x, t, p, rfl, hb1⟩
  have HW1 := Lib.hid (HW.out.below hb1)
  go_wp2_with fail
  refine (C2.out _ HW1.out).mono ?_
  rintro e w2 ⟨x2, t2, p2, rfl, hb2⟩
  go_wp2_with fail
  go_ret
  exact ⟨rfl, hb1.trans (hb2.mono hb1.size)⟩

set_option maxHeartbeats 2000000 in
set_option maxRecDepth 100000 in
theorem part_sn (s o : ByteArray) (hs : s.size ≤ 2147483647) (ho : o.size ≤ 2147483647) (he : s.toList ≠ o.toList) (h1 : s.toList ≠ []) (h2 : o.toList ≠ []) (a : Nat) (ps : num s.data.toList = some a) (po : num o.data.toList = none) (w : World) (hw : Std w) :
    Calls Tryd.prog 122 #[.string s, .string o] w fun e w' => e = .returned (.int .i64 (-1)) ∧ Below w.heap.size w w' := by
  have b1 : (s.toList == o.toList) = false := beq_eq_false_iff_ne.2 he
  have b2 : (s.toList == []) = false := beq_eq_false_iff_ne.2 h1
  have b3 : (o.toList == []) = false := beq_eq_false_iff_ne.2 h2
  have C1 := Lib.hid (fun W => parse_err o ho po W)
  have C2 := Lib.hid (fun W => parse_ok s hs a ps W)
  have HW := Lib.hid hw
  clear he h1 h2 ps po hw
  go_enter Tryd.func122, Tryd.ntmps122
  go_wp2_with fail
  refine (C1.out _ HW.out).mono ?_
  rintro e w1 ⟨x, t, p, rfl, hb1⟩
  have HW1 := Lib.hid (HW.out.below hb1)
  go_wp2_with fail
  refine (C2.out _).mono ?_
  rintro e w2 ⟨rfl, hb2⟩
  go_wp2_with fail
  go_ret
  exact ⟨rfl, hb1.trans (hb2.mono hb1.size)⟩

set_option maxHeartbeats 2000000 in
set_option maxRecDepth 100000 in
theorem part_no (s o : ByteArray) (hs : s.size ≤ 2147483647) (ho : o.size ≤ 2147483647) (he : s.toList ≠ o.toList) (h1 : s.toList ≠ []) (h2 : o.toList ≠ []) (b : Nat) (ps : num s.data.toList = none) (po : num o.data.toList = some b) (w : World) (hw : Std w) :
    Calls Tryd.prog 122 #[.string s, .string o] w fun e w' => e = .returned (.int .i64 1) ∧ Below w.heap.size w w' := by
  have b1 : (s.toList == o.toList) = false := beq_eq_false_iff_ne.2 he
  have b2 : (s.toList == []) = false := beq_eq_false_iff_ne.2 h1
  have b3 : (o.toList == []) = false := beq_eq_false_iff_ne.2 h2
  have C1 := Lib.hid (fun W => parse_ok o ho b po W)
  have C2 := Lib.hid (fun W => parse_err s hs ps W)
  have HW := Lib.hid hw
  clear he h1 h2 ps po hw
  go_enter Tryd.func122, Tryd.ntmps122
  go_wp2_with fail
  refine (C1.out _).mono ?_
  rintro e w1 ⟨rfl, hb1⟩
  have HW1 := Lib.hid (HW.out.below hb1)
  go_wp2_with fail
  refine (C2.out _ HW1.out).mono ?_
  rintro e w2 ⟨x2, t2, p2, rfl, hb2⟩
  go_wp2_with fail
  go_ret
  exact ⟨rfl, hb1.trans (hb2.mono hb1.size)⟩

set_option maxHeartbeats 2000000 in
set_option maxRecDepth 100000 in
theorem part_ss1 (s o : ByteArray) (hs : s.size ≤ 2147483647) (ho : o.size ≤ 2147483647) (he : s.toList ≠ o.toList) (h1 : s.toList ≠ []) (h2 : o.toList ≠ []) (a b : Nat) (ps : num s.data.toList = some a) (po : num o.data.toList = some b) (hab : b < a) (w : World) (hw : Std w) :
    Calls Tryd.prog 122 #[.string s, .string o] w fun e w' => e = .returned (.int .i64 1) ∧ Below w.heap.size w w' := by
  have b1 : (s.toList == o.toList) = false := beq_eq_false_iff_ne.2 he
  have b2 : (s.toList == []) = false := beq_eq_false_iff_ne.2 h1
  have b3 : (o.toList == []) = false := beq_eq_false_iff_ne.2 h2
  have C1 := Lib.hid (fun W => parse_ok o ho b po W)
  have C2 := Lib.hid (fun W => parse_ok s hs a ps W)
  have b5 : decide ((b : Int) < (a : Int)) = true := decide_eq_true (by omega)
  have b6 : decide (b < a) = true := decide_eq_true hab
  have HW := Lib.hid hw
  clear he h1 h2 ps po hw
  go_enter Tryd.func122, Tryd.ntmps122
  go_wp2_with fail
  refine (C1.out _).mono ?_
  rintro e w1 ⟨rfl, hb1⟩
  have HW1 := Lib.hid (HW.out.below hb1)
  go_wp2_with fail
  refine (C2.out _).mono ?_
  rintro e w2 ⟨rfl, hb2⟩
  go_wp2_with fail
  go_ret
  exact ⟨rfl, hb1.trans (hb2.mono hb1.size)⟩

set_option maxHeartbeats 2000000 in
set_option maxRecDepth 100000 in
theorem part_ss2 (s o : ByteArray) (hs : s.size ≤ 2147483647) (ho : o.size ≤ 2147483647) (he : s.toList ≠ o.toList) (h1 : s.toList ≠ []) (h2 : o.toList ≠ []) (a b : Nat) (ps : num s.data.toList = some a) (po : num o.data.toList = some b) (hab : ¬ b < a) (w : World) (hw : Std w) :
    Calls Tryd.prog 122 #[.string s, .string o] w fun e w' => e = .returned (.int .i64 (-1)) ∧ Below w.heap.size w w' := by
  have b1 : (s.toList == o.toList) = false := beq_eq_false_iff_ne.2 he
  have b2 : (s.toList == []) = false := beq_eq_false_iff_ne.2 h1
  have b3 : (o.toList == []) = false := beq_eq_false_iff_ne.2 h2
  have C1 := Lib.hid (fun W => parse_ok o ho b po W)
  have C2 := Lib.hid (fun W => parse_ok s hs a ps W)
  have b5 : decide ((b : Int) < (a : Int)) = false := decide_eq_false (by omega)
  have b6 : decide (b < a) = false := decide_eq_false hab
  have HW := Lib.hid hw
  clear he h1 h2 ps po hw
  go_enter Tryd.func122, Tryd.ntmps122
  go_wp2_with fail
  refine (C1.out _).mono ?_
  rintro e w1 ⟨rfl, hb1⟩
  have HW1 := Lib.hid (HW.out.below hb1)
  go_wp2_with fail
  refine (C2.out _).mono ?_
  rintro e w2 ⟨rfl, hb2⟩
  go_wp2_with fail
  go_ret
  exact ⟨rfl, hb1.trans (hb2.mono hb1.size)⟩

theorem part (s o : ByteArray) (hs : s.size ≤ 2147483647) (ho : o.size ≤ 2147483647) (w : World) (hw : Std w) :
    Calls Tryd.prog 122 #[.string s, .string o] w fun e w' => e = .returned (.int .i64 (cpp s.data.toList o.data.toList)) ∧ Below w.heap.size w w' := by
  have ts : s.toList = s.data.toList := ByteArray.toList_eq s
  have to : o.toList = o.data.toList := ByteArray.toList_eq o
  unfold cpp
  by_cases he : s.data.toList = o.data.toList
  · rw [if_pos he]; exact part_eq s o (by rw [ts, to]; exact he) w
  · rw [if_neg he]
    have he' : s.toList ≠ o.toList := by rw [ts, to]; exact he
    by_cases h1 : s.data.toList = []
    · rw [if_pos h1]; exact part_se s o he' (by rw [ts]; exact h1) w
    · rw [if_neg h1]
      have h1' : s.toList ≠ [] := by rw [ts]; exact h1
      by_cases h2 : o.data.toList = []
      · rw [if_pos h2]; exact part_oe s o he' h1' (by rw [to]; exact h2) w
      · rw [if_neg h2]
        have h2' : o.toList ≠ [] := by rw [to]; exact h2
        cases ps : num s.data.toList with
        | none =>
          cases po : num o.data.toList with
          | none =>
            simp only
            cases hl : Op.bytesLess s.data.toList o.data.toList
            · exact part_nn2 s o hs ho he' h1' h2' ps po (by rw [ts, to]; exact hl) w hw
            · exact part_nn1 s o hs ho he' h1' h2' ps po (by rw [ts, to]; exact hl) w hw
          | some b => exact part_no s o hs ho he' h1' h2' b ps po w hw
        | some a =>
          cases po : num o.data.toList with
          | none => exact part_sn s o hs ho he' h1' h2' a ps po w hw
          | some b =>
            simp only
            by_cases hab : b < a
            · rw [if_pos hab]; exact part_ss1 s o hs ho he' h1' h2' a b ps po hab w hw
            · rw [if_neg hab]; exact part_ss2 s o hs ho he' h1' h2' a b ps po hab w hw

end Go.Proofs.YtllkoadcpobdaaaDoor.Part
