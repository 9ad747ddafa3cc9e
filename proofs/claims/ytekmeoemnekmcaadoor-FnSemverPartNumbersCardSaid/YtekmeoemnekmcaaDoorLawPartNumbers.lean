/- The statement FnSemverPartNumbers: two identifiers that are numbers, of at most 19 digits, compare as the numbers, and each is below every valid identifier that is none. For all inputs. -/
import Derived.Test.YtekmeoemnekmcaaDoorKSvIdFnSemverPartNumbers
import Derived.Test.YtekmeoemnekmcaaDoorKDecFnSemverPartNumbers
import Derived.Test.YtekmeoemnekmcaaDoorCpp
namespace Go.Proofs.YtekmeoemnekmcaaDoor.KFnSemverPartNumbers
open Go.RowKit Go.Lib Go.Proofs Go.Proofs.YtekmeoemnekmcaaDoor.Base Go.Proofs.YtekmeoemnekmcaaDoor.L Go.Proofs.YtekmeoemnekmcaaDoor.Bt Go.Proofs.YtekmeoemnekmcaaDoor.Num Go.Proofs.YtekmeoemnekmcaaDoor.Parse Go.Proofs.YtekmeoemnekmcaaDoor.Part Go.Proofs.YtekmeoemnekmcaaDoor.PFnSemverPartNumbers
open Go.Proofs.YtekmeoemnekmcaaDoorW.PrintWords Go.Proofs.YtekmeoemnekmcaaDoorW.PrintLast Go.Proofs.YtekmeoemnekmcaaDoorW.PrintMore

set_option maxHeartbeats 1000000 in
theorem implPart (s o : ByteArray) (hs : s.size ≤ 1000000000) (ho : o.size ≤ 1000000000) (r : Int) (hr : cpp (bl s) (bl o) = r) (w : World) (hw : Std w) :
    Calls Tryd.prog 21 #[.string s, .string o] w fun e w' => e = .returned (.int .i64 r) ∧ Below w.heap.size w w' := by
  have C := Lib.hid (Go.Proofs.YtekmeoemnekmcaaDoor.Part.part s o hs ho w hw)
  rw [show cpp s.data.toList o.data.toList = r from hr] at C
  clear hr hw
  go_enter Tryd.func21, Tryd.ntmps21
  go_wp2_with (first | (go_at_call 58; refine C.out.mono ?_; rintro e w' ⟨rfl, hb⟩) | go_in)
  go_ret
  exact ⟨rfl, hb⟩

theorem dec_size (n : Nat) (h : n ≤ top) : (ofL (decL n)).size ≤ 100 := by
  have := decL_len 24 n (by unfold top at h; omega)
  rw [size_ofL]; omega

set_option maxHeartbeats 2000000 in
set_option maxRecDepth 100000 in
theorem w_long (n m : Nat) (s : ByteArray) (h : 2147483647 < s.size) (w : World) :
    Calls Tryd.prog 6 #[.int .u64 (n : Int), .int .u64 (m : Int), .string s] w fun e w' => e = .returned (.bool true) ∧ Below w.heap.size w w' := by
  have b1 : decide (2147483647 < (s.size : Int)) = true := decide_eq_true (by omega)
  go_enter Tryd.func6, Tryd.ntmps6
  go_wp2
  go_ret
  exact ⟨rfl, Below.refl _ _⟩

set_option maxHeartbeats 2000000 in
set_option maxRecDepth 100000 in
theorem w_n (n m : Nat) (s : ByteArray) (hs : s.size ≤ 2147483647) (h : 9999999999999999999 < n) (w : World) :
    Calls Tryd.prog 6 #[.int .u64 (n : Int), .int .u64 (m : Int), .string s] w fun e w' => e = .returned (.bool true) ∧ Below w.heap.size w w' := by
  have b1 : decide (2147483647 < (s.size : Int)) = false := decide_eq_false (by omega)
  have b2 : decide (9999999999999999999 < (n : Int)) = true := decide_eq_true (by omega)
  clear h
  go_enter Tryd.func6, Tryd.ntmps6
  go_wp2
  go_ret
  exact ⟨rfl, Below.refl _ _⟩

set_option maxHeartbeats 2000000 in
set_option maxRecDepth 100000 in
theorem w_m (n m : Nat) (s : ByteArray) (hs : s.size ≤ 2147483647) (h0 : n ≤ 9999999999999999999) (h : 9999999999999999999 < m) (w : World) :
    Calls Tryd.prog 6 #[.int .u64 (n : Int), .int .u64 (m : Int), .string s] w fun e w' => e = .returned (.bool true) ∧ Below w.heap.size w w' := by
  have b1 : decide (2147483647 < (s.size : Int)) = false := decide_eq_false (by omega)
  have b2 : decide (9999999999999999999 < (n : Int)) = false := decide_eq_false (by omega)
  have b3 : decide (9999999999999999999 < (m : Int)) = true := decide_eq_true (by omega)
  clear h h0
  go_enter Tryd.func6, Tryd.ntmps6
  go_wp2
  go_ret
  exact ⟨rfl, Below.refl _ _⟩

set_option maxHeartbeats 2000000 in
set_option maxRecDepth 100000 in
theorem w_id (n m : Nat) (s : ByteArray) (hs : s.size ≤ 2147483647) (h0 : n ≤ 9999999999999999999) (h1 : m ≤ 9999999999999999999) (h : identOk s = false) (w : World) :
    Calls Tryd.prog 6 #[.int .u64 (n : Int), .int .u64 (m : Int), .string s] w fun e w' => e = .returned (.bool true) ∧ Below w.heap.size w w' := by
  have b1 : decide (2147483647 < (s.size : Int)) = false := decide_eq_false (by omega)
  have b2 : decide (9999999999999999999 < (n : Int)) = false := decide_eq_false (by omega)
  have b3 : decide (9999999999999999999 < (m : Int)) = false := decide_eq_false (by omega)
  obtain ⟨k, hk⟩ := svIdent_f s
  rw [h] at hk
  have C1 := Lib.hid (fun W => laws_svIdent.calls k s _ W hk)
  clear h h0 h1 hk
  go_enter Tryd.func6, Tryd.ntmps6
  go_wp2_with (go_at_call 19; refine (C1.out _).mono ?_; rintro e w1 ⟨rfl, hb1⟩)
  go_ret
  exact ⟨rfl, hb1⟩

set_option maxHeartbeats 2000000 in
set_option maxRecDepth 100000 in
theorem w_dig (n m : Nat) (s : ByteArray) (hs : s.size ≤ 2147483647) (h0 : n ≤ 9999999999999999999) (h1 : m ≤ 9999999999999999999) (h : identOk s = true) (hd : ((bl s).all isDig && !(bl s == [])) = true) (w : World) :
    Calls Tryd.prog 6 #[.int .u64 (n : Int), .int .u64 (m : Int), .string s] w fun e w' => e = .returned (.bool true) ∧ Below w.heap.size w w' := by
  have b1 : decide (2147483647 < (s.size : Int)) = false := decide_eq_false (by omega)
  have b2 : decide (9999999999999999999 < (n : Int)) = false := decide_eq_false (by omega)
  have b3 : decide (9999999999999999999 < (m : Int)) = false := decide_eq_false (by omega)
  have hsz : s.size ≤ 65536 := by unfold identOk at h; rw [Bool.and_eq_true, decide_eq_true_eq] at h; exact h.1
  obtain ⟨k, hk⟩ := svIdent_f s
  rw [h] at hk
  have C1 := Lib.hid (fun W => laws_svIdent.calls k s _ W hk)
  have hdg := digits_f s (by omega) (s.size + 1) (by omega)
  rw [hd] at hdg
  have C2 := Lib.hid (fun W => spec_Digits.calls (s.size + 1) s _ W hdg)
  clear h h0 h1 hk hdg hd
  go_enter Tryd.func6, Tryd.ntmps6
  go_wp2_with fail
  refine (C1.out _).mono ?_
  rintro e w1 ⟨rfl, hb1⟩
  go_wp2_with fail
  refine (C2.out _).mono ?_
  rintro e w2 ⟨rfl, ⟨nd, rfl⟩⟩
  go_wp2_with fail
  go_ret
  exact ⟨rfl, dN hb1 _⟩

set_option maxHeartbeats 2000000 in
set_option maxRecDepth 100000 in
theorem w_lt (n m : Nat) (s : ByteArray) (hs : s.size ≤ 2147483647) (h0 : n ≤ 9999999999999999999) (h1 : m ≤ 9999999999999999999) (h : identOk s = true) (hd : ((bl s).all isDig && !(bl s == [])) = false) (hab : n < m) (w : World) (hw : Std w) :
    Calls Tryd.prog 6 #[.int .u64 (n : Int), .int .u64 (m : Int), .string s] w fun e w' => e = .returned (.bool true) ∧ Below w.heap.size w w' := by
  have b1 : decide (2147483647 < (s.size : Int)) = false := decide_eq_false (by omega)
  have b2 : decide (9999999999999999999 < (n : Int)) = false := decide_eq_false (by omega)
  have b3 : decide (9999999999999999999 < (m : Int)) = false := decide_eq_false (by omega)
  have hsz : s.size ≤ 65536 := by unfold identOk at h; rw [Bool.and_eq_true, decide_eq_true_eq] at h; exact h.1
  obtain ⟨k, hk⟩ := svIdent_f s
  rw [h] at hk
  have C1 := Lib.hid (fun W => laws_svIdent.calls k s _ W hk)
  have hdg := digits_f s (by omega) (s.size + 1) (by omega)
  have hne : bl s ≠ [] := by
    intro e
    unfold identOk metaP at h
    rw [e] at h
    simp at h
  have hall : (bl s).all isDig = false := by
    cases q : (bl s).all isDig
    · rfl
    · exfalso
      have e2 : (bl s == []) = false := beq_eq_false_iff_ne.2 hne
      rw [q, e2] at hd; cases hd
  rw [hd] at hdg
  have C2 := Lib.hid (fun W => spec_Digits.calls (s.size + 1) s _ W hdg)
  have hn : n ≤ top := by unfold top; omega
  have hm : m ≤ top := by unfold top; omega
  have C3 := Lib.hid (fun W => spec_Decimal.calls 26 (n : Int) _ W (decimal_f 25 n (by omega) (by omega) (by omega)))
  have C4 := Lib.hid (fun W => spec_Decimal.calls 26 (m : Int) _ W (decimal_f 25 m (by omega) (by omega) (by omega)))
  have z1 := dec_size n hn
  have z2 := dec_size m hm
  have q1 : cpp (bl (ofL (decL n))) (bl (ofL (decL m))) = -1 := by
    rw [bl_ofL, bl_ofL, cpp_num n m hn hm]
    rw [if_pos hab]
  obtain ⟨q2, _⟩ := cpp_nw n hn (bl s) hne hall
  obtain ⟨_, q3⟩ := cpp_nw m hm (bl s) hne hall
  rw [← bl_ofL (decL n)] at q2
  rw [← bl_ofL (decL m)] at q3
  generalize ofL (decL n) = A at *
  generalize ofL (decL m) = B at *
  have C5 := Lib.hid (fun W => implPart A B (by omega) (by omega) _ q1 W)
  have C6 := Lib.hid (fun W => implPart A s (by omega) (by omega) _ q2 W)
  have C7 := Lib.hid (fun W => implPart s B (by omega) (by omega) _ q3 W)
  have HW := Lib.hid hw
  have b5 : decide ((n : Int) < (m : Int)) = true := decide_eq_true (by omega)
  have b5' : decide (n < m) = true := decide_eq_true (by omega)
  have b6 : decide ((m : Int) < (n : Int)) = false := decide_eq_false (by omega)
  have b6' : decide (m < n) = false := decide_eq_false (by omega)
  clear h h0 h1 hk hdg hd hne hall q1 q2 q3 hn hm hw hab
  go_enter Tryd.func6, Tryd.ntmps6
  go_wp2_with fail
  refine (C1.out _).mono ?_
  rintro e w1 ⟨rfl, hb1⟩
  go_wp2_with fail
  refine (C2.out _).mono ?_
  rintro e w2 ⟨rfl, ⟨nd, rfl⟩⟩
  have hb2 := dN hb1 nd
  clear hb1
  go_wp2_with fail
  refine (C3.out _).mono ?_
  rintro e w3 ⟨rfl, hb3⟩
  have hb3' := hb2.trans (hb3.mono hb2.size)
  clear hb2 hb3
  go_wp2_with fail
  refine (C4.out _).mono ?_
  rintro e w4 ⟨rfl, hb4⟩
  have hb4' := hb3'.trans (hb4.mono hb3'.size)
  clear hb3' hb4
  have HW4 := Lib.hid (HW.out.below hb4')
  go_wp2_with fail
  refine (C5.out _ HW4.out).mono ?_
  rintro e w5 ⟨rfl, hb5⟩
  have hb5' := hb4'.trans (hb5.mono hb4'.size)
  clear hb4' hb5
  have HW5 := Lib.hid (HW.out.below hb5')
  go_wp2_with fail
  refine (C6.out _ HW5.out).mono ?_
  rintro e w6 ⟨rfl, hb6⟩
  have hb6' := hb5'.trans (hb6.mono hb5'.size)
  clear hb5' hb6
  have HW6 := Lib.hid (HW.out.below hb6')
  go_wp2_with fail
  refine (C7.out _ HW6.out).mono ?_
  rintro e w7 ⟨rfl, hb7⟩
  go_wp2_with fail
  go_ret
  exact ⟨rfl, hb6'.trans (hb7.mono hb6'.size)⟩

set_option maxHeartbeats 2000000 in
set_option maxRecDepth 100000 in
theorem w_gt (n m : Nat) (s : ByteArray) (hs : s.size ≤ 2147483647) (h0 : n ≤ 9999999999999999999) (h1 : m ≤ 9999999999999999999) (h : identOk s = true) (hd : ((bl s).all isDig && !(bl s == [])) = false) (hab : m < n) (w : World) (hw : Std w) :
    Calls Tryd.prog 6 #[.int .u64 (n : Int), .int .u64 (m : Int), .string s] w fun e w' => e = .returned (.bool true) ∧ Below w.heap.size w w' := by
  have b1 : decide (2147483647 < (s.size : Int)) = false := decide_eq_false (by omega)
  have b2 : decide (9999999999999999999 < (n : Int)) = false := decide_eq_false (by omega)
  have b3 : decide (9999999999999999999 < (m : Int)) = false := decide_eq_false (by omega)
  have hsz : s.size ≤ 65536 := by unfold identOk at h; rw [Bool.and_eq_true, decide_eq_true_eq] at h; exact h.1
  obtain ⟨k, hk⟩ := svIdent_f s
  rw [h] at hk
  have C1 := Lib.hid (fun W => laws_svIdent.calls k s _ W hk)
  have hdg := digits_f s (by omega) (s.size + 1) (by omega)
  have hne : bl s ≠ [] := by
    intro e
    unfold identOk metaP at h
    rw [e] at h
    simp at h
  have hall : (bl s).all isDig = false := by
    cases q : (bl s).all isDig
    · rfl
    · exfalso
      have e2 : (bl s == []) = false := beq_eq_false_iff_ne.2 hne
      rw [q, e2] at hd; cases hd
  rw [hd] at hdg
  have C2 := Lib.hid (fun W => spec_Digits.calls (s.size + 1) s _ W hdg)
  have hn : n ≤ top := by unfold top; omega
  have hm : m ≤ top := by unfold top; omega
  have C3 := Lib.hid (fun W => spec_Decimal.calls 26 (n : Int) _ W (decimal_f 25 n (by omega) (by omega) (by omega)))
  have C4 := Lib.hid (fun W => spec_Decimal.calls 26 (m : Int) _ W (decimal_f 25 m (by omega) (by omega) (by omega)))
  have z1 := dec_size n hn
  have z2 := dec_size m hm
  have q1 : cpp (bl (ofL (decL n))) (bl (ofL (decL m))) = 1 := by
    rw [bl_ofL, bl_ofL, cpp_num n m hn hm]
    rw [if_neg (by omega), if_pos hab]
  obtain ⟨q2, _⟩ := cpp_nw n hn (bl s) hne hall
  obtain ⟨_, q3⟩ := cpp_nw m hm (bl s) hne hall
  rw [← bl_ofL (decL n)] at q2
  rw [← bl_ofL (decL m)] at q3
  generalize ofL (decL n) = A at *
  generalize ofL (decL m) = B at *
  have C5 := Lib.hid (fun W => implPart A B (by omega) (by omega) _ q1 W)
  have C6 := Lib.hid (fun W => implPart A s (by omega) (by omega) _ q2 W)
  have C7 := Lib.hid (fun W => implPart s B (by omega) (by omega) _ q3 W)
  have HW := Lib.hid hw
  have b5 : decide ((n : Int) < (m : Int)) = false := decide_eq_false (by omega)
  have b5' : decide (n < m) = false := decide_eq_false (by omega)
  have b6 : decide ((m : Int) < (n : Int)) = true := decide_eq_true (by omega)
  have b6' : decide (m < n) = true := decide_eq_true (by omega)
  clear h h0 h1 hk hdg hd hne hall q1 q2 q3 hn hm hw hab
  go_enter Tryd.func6, Tryd.ntmps6
  go_wp2_with fail
  refine (C1.out _).mono ?_
  rintro e w1 ⟨rfl, hb1⟩
  go_wp2_with fail
  refine (C2.out _).mono ?_
  rintro e w2 ⟨rfl, ⟨nd, rfl⟩⟩
  have hb2 := dN hb1 nd
  clear hb1
  go_wp2_with fail
  refine (C3.out _).mono ?_
  rintro e w3 ⟨rfl, hb3⟩
  have hb3' := hb2.trans (hb3.mono hb2.size)
  clear hb2 hb3
  go_wp2_with fail
  refine (C4.out _).mono ?_
  rintro e w4 ⟨rfl, hb4⟩
  have hb4' := hb3'.trans (hb4.mono hb3'.size)
  clear hb3' hb4
  have HW4 := Lib.hid (HW.out.below hb4')
  go_wp2_with fail
  refine (C5.out _ HW4.out).mono ?_
  rintro e w5 ⟨rfl, hb5⟩
  have hb5' := hb4'.trans (hb5.mono hb4'.size)
  clear hb4' hb5
  have HW5 := Lib.hid (HW.out.below hb5')
  go_wp2_with fail
  refine (C6.out _ HW5.out).mono ?_
  rintro e w6 ⟨rfl, hb6⟩
  have hb6' := hb5'.trans (hb6.mono hb5'.size)
  clear hb5' hb6
  have HW6 := Lib.hid (HW.out.below hb6')
  go_wp2_with fail
  refine (C7.out _ HW6.out).mono ?_
  rintro e w7 ⟨rfl, hb7⟩
  go_wp2_with fail
  go_ret
  exact ⟨rfl, hb6'.trans (hb7.mono hb6'.size)⟩

set_option maxHeartbeats 2000000 in
set_option maxRecDepth 100000 in
theorem w_eq (n m : Nat) (s : ByteArray) (hs : s.size ≤ 2147483647) (h0 : n ≤ 9999999999999999999) (h1 : m ≤ 9999999999999999999) (h : identOk s = true) (hd : ((bl s).all isDig && !(bl s == [])) = false) (hab : n = m) (w : World) (hw : Std w) :
    Calls Tryd.prog 6 #[.int .u64 (n : Int), .int .u64 (m : Int), .string s] w fun e w' => e = .returned (.bool true) ∧ Below w.heap.size w w' := by
  have b1 : decide (2147483647 < (s.size : Int)) = false := decide_eq_false (by omega)
  have b2 : decide (9999999999999999999 < (n : Int)) = false := decide_eq_false (by omega)
  have b3 : decide (9999999999999999999 < (m : Int)) = false := decide_eq_false (by omega)
  have hsz : s.size ≤ 65536 := by unfold identOk at h; rw [Bool.and_eq_true, decide_eq_true_eq] at h; exact h.1
  obtain ⟨k, hk⟩ := svIdent_f s
  rw [h] at hk
  have C1 := Lib.hid (fun W => laws_svIdent.calls k s _ W hk)
  have hdg := digits_f s (by omega) (s.size + 1) (by omega)
  have hne : bl s ≠ [] := by
    intro e
    unfold identOk metaP at h
    rw [e] at h
    simp at h
  have hall : (bl s).all isDig = false := by
    cases q : (bl s).all isDig
    · rfl
    · exfalso
      have e2 : (bl s == []) = false := beq_eq_false_iff_ne.2 hne
      rw [q, e2] at hd; cases hd
  rw [hd] at hdg
  have C2 := Lib.hid (fun W => spec_Digits.calls (s.size + 1) s _ W hdg)
  have hn : n ≤ top := by unfold top; omega
  have hm : m ≤ top := by unfold top; omega
  have C3 := Lib.hid (fun W => spec_Decimal.calls 26 (n : Int) _ W (decimal_f 25 n (by omega) (by omega) (by omega)))
  have C4 := Lib.hid (fun W => spec_Decimal.calls 26 (m : Int) _ W (decimal_f 25 m (by omega) (by omega) (by omega)))
  have z1 := dec_size n hn
  have z2 := dec_size m hm
  have q1 : cpp (bl (ofL (decL n))) (bl (ofL (decL m))) = 0 := by
    rw [bl_ofL, bl_ofL, cpp_num n m hn hm]
    rw [if_neg (by omega), if_neg (by omega)]
  obtain ⟨q2, _⟩ := cpp_nw n hn (bl s) hne hall
  obtain ⟨_, q3⟩ := cpp_nw m hm (bl s) hne hall
  rw [← bl_ofL (decL n)] at q2
  rw [← bl_ofL (decL m)] at q3
  generalize ofL (decL n) = A at *
  generalize ofL (decL m) = B at *
  have C5 := Lib.hid (fun W => implPart A B (by omega) (by omega) _ q1 W)
  have C6 := Lib.hid (fun W => implPart A s (by omega) (by omega) _ q2 W)
  have C7 := Lib.hid (fun W => implPart s B (by omega) (by omega) _ q3 W)
  have HW := Lib.hid hw
  have b5 : decide ((n : Int) < (m : Int)) = false := decide_eq_false (by omega)
  have b5' : decide (n < m) = false := decide_eq_false (by omega)
  have b6 : decide ((m : Int) < (n : Int)) = false := decide_eq_false (by omega)
  have b6' : decide (m < n) = false := decide_eq_false (by omega)
  clear h h0 h1 hk hdg hd hne hall q1 q2 q3 hn hm hw hab
  go_enter Tryd.func6, Tryd.ntmps6
  go_wp2_with fail
  refine (C1.out _).mono ?_
  rintro e w1 ⟨rfl, hb1⟩
  go_wp2_with fail
  refine (C2.out _).mono ?_
  rintro e w2 ⟨rfl, ⟨nd, rfl⟩⟩
  have hb2 := dN hb1 nd
  clear hb1
  go_wp2_with fail
  refine (C3.out _).mono ?_
  rintro e w3 ⟨rfl, hb3⟩
  have hb3' := hb2.trans (hb3.mono hb2.size)
  clear hb2 hb3
  go_wp2_with fail
  refine (C4.out _).mono ?_
  rintro e w4 ⟨rfl, hb4⟩
  have hb4' := hb3'.trans (hb4.mono hb3'.size)
  clear hb3' hb4
  have HW4 := Lib.hid (HW.out.below hb4')
  go_wp2_with fail
  refine (C5.out _ HW4.out).mono ?_
  rintro e w5 ⟨rfl, hb5⟩
  have hb5' := hb4'.trans (hb5.mono hb4'.size)
  clear hb4' hb5
  have HW5 := Lib.hid (HW.out.below hb5')
  go_wp2_with fail
  refine (C6.out _ HW5.out).mono ?_
  rintro e w6 ⟨rfl, hb6⟩
  have hb6' := hb5'.trans (hb6.mono hb5'.size)
  clear hb5' hb6
  have HW6 := Lib.hid (HW.out.below hb6')
  go_wp2_with fail
  refine (C7.out _ HW6.out).mono ?_
  rintro e w7 ⟨rfl, hb7⟩
  go_wp2_with fail
  go_ret
  exact ⟨rfl, hb6'.trans (hb7.mono hb6'.size)⟩

theorem walk_nat (n m : Nat) (s : ByteArray) (w : World) (hw : Std w) :
    Calls Tryd.prog 6 #[.int .u64 (n : Int), .int .u64 (m : Int), .string s] w fun e w' => e = .returned (.bool true) ∧ Below w.heap.size w w' := by
  by_cases hs : s.size ≤ 2147483647
  · by_cases h0 : n ≤ 9999999999999999999
    · by_cases h1 : m ≤ 9999999999999999999
      · cases h : identOk s
        · exact w_id n m s hs h0 h1 h w
        · cases hd : ((bl s).all isDig && !(bl s == []))
          · rcases Nat.lt_trichotomy n m with hab | hab | hab
            · exact w_lt n m s hs h0 h1 h hd hab w hw
            · exact w_eq n m s hs h0 h1 h hd hab w hw
            · exact w_gt n m s hs h0 h1 h hd hab w hw
          · exact w_dig n m s hs h0 h1 h hd w
      · exact w_m n m s hs h0 (by omega) w
    · exact w_n n m s hs (by omega) w
  · exact w_long n m s (by omega) w
end Go.Proofs.YtekmeoemnekmcaaDoor.KFnSemverPartNumbers
