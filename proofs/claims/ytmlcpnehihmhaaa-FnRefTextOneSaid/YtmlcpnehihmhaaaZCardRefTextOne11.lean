/- The row of FnRefTextOne, out of its printed walk and its plain law. For every input that the statement lets in. -/
import Derived.Test.YtmlcpnehihmhaaaZCardRefTextOne1
import Derived.Test.YtmlcpnehihmhaaaZCardRefTextOne6
import Derived.Test.YtmlcpnehihmhaaaZCardRefTextOne10
import Derived.LoopTactic
namespace Go.Proofs.Ytmlcpnehihmhaaa.Base
end Go.Proofs.Ytmlcpnehihmhaaa.Base
namespace Go.Proofs.Ytmlcpnehihmhaaa.Bt
end Go.Proofs.Ytmlcpnehihmhaaa.Bt
namespace Go.Proofs.Ytmlcpnehihmhaaa.L
end Go.Proofs.Ytmlcpnehihmhaaa.L
namespace Go.Proofs.Ytmlcpnehihmhaaa.PX
end Go.Proofs.Ytmlcpnehihmhaaa.PX
namespace Go.Proofs.Ytmlcpnehihmhaaa.Gr

open Go Go.RowKit Go.Lib Go.Proofs Go.Proofs.Ytmlcpnehihmhaaa Go.Proofs.Ytmlcpnehihmhaaa.Base Go.Proofs.Ytmlcpnehihmhaaa.L Go.Proofs.Ytmlcpnehihmhaaa.Bt Go.Proofs.Ytmlcpnehihmhaaa.PX

open Go.Proofs.YtmlcpnehihmhaaaW.PrintWords Go.Proofs.YtmlcpnehihmhaaaW.PrintLast Go.Proofs.YtmlcpnehihmhaaaW.PrintMore

attribute [local go_sem] setCell_drewN alloc_drewN

set_option linter.unusedVariables false

/-- What a test says of a byte, as it is printed. -/
def pB (f : Int → Option Bool) (c : Int) : Bool := (f c).getD false

def runN (P : Int → Bool) (l : List UInt8) : Nat := (l.takeWhile (fun c => P (c.toNat : Int))).length

def allB (P : Int → Bool) (s : ByteArray) : Bool := !(s.toList == ([] : List UInt8)) && decide (runN P (bl s) = s.size)

theorem runN_le (P : Int → Bool) (l : List UInt8) : runN P l ≤ l.length := (List.takeWhile_sublist _).length_le

theorem runN_yes (P : Int → Bool) (s : ByteArray) (k : Nat) (h : k < s.size) (hp : P (s[k].toNat : Int) = true) : runN P ((bl s).drop k) = runN P ((bl s).drop (k + 1)) + 1 := by
  unfold runN
  rw [drop_bl s k h, List.takeWhile_cons, get_bl s k h, if_pos hp, List.length_cons]

theorem runN_no (P : Int → Bool) (s : ByteArray) (k : Nat) (h : k < s.size) (hp : P (s[k].toNat : Int) = false) : runN P ((bl s).drop k) = 0 := by
  unfold runN
  rw [drop_bl s k h, List.takeWhile_cons, get_bl s k h, if_neg (by rw [hp]; exact Bool.false_ne_true)]; rfl

theorem runN_end (P : Int → Bool) (s : ByteArray) (k : Nat) (h : s.size ≤ k) : runN P ((bl s).drop k) = 0 := by
  rw [List.drop_of_length_le (by rw [bl_len]; exact h)]; rfl

theorem tot_refDigit (c : Int) : ∃ r, spec_refDigit.f c = some r := by
  unfold spec_refDigit.f
  repeat' (first | exact ⟨_, rfl⟩ | split)

theorem tot_refLower (c : Int) : ∃ r, spec_refLower.f c = some r := by
  unfold spec_refLower.f
  obtain ⟨r, h⟩ := tot_refDigit c; rw [h]; simp only [Option.bind_some]
  repeat' (first | exact ⟨_, rfl⟩ | split)

theorem tot_refAlnum (c : Int) : ∃ r, spec_refAlnum.f c = some r := by
  unfold spec_refAlnum.f
  obtain ⟨r, h⟩ := tot_refLower c; rw [h]; simp only [Option.bind_some]
  repeat' (first | exact ⟨_, rfl⟩ | split)

theorem tot_refWord (c : Int) : ∃ r, spec_refWord.f c = some r := by
  unfold spec_refWord.f
  obtain ⟨r, h⟩ := tot_refAlnum c; rw [h]; simp only [Option.bind_some]
  repeat' (first | exact ⟨_, rfl⟩ | split)

theorem tot_refHex (c : Int) : ∃ r, spec_refHex.f c = some r := by
  unfold spec_refHex.f
  obtain ⟨r, h⟩ := tot_refDigit c; rw [h]; simp only [Option.bind_some]
  repeat' (first | exact ⟨_, rfl⟩ | split)

theorem tot_refSmallHex (c : Int) : ∃ r, spec_refSmallHex.f c = some r := by
  unfold spec_refSmallHex.f
  obtain ⟨r, h⟩ := tot_refDigit c; rw [h]; simp only [Option.bind_some]
  repeat' (first | exact ⟨_, rfl⟩ | split)

theorem tot_RefIsTag_1 (c : Int) : ∃ r, spec_RefIsTag_1.f c = some r := by
  unfold spec_RefIsTag_1.f
  obtain ⟨r, h⟩ := tot_refWord c; rw [h]; simp only [Option.bind_some]
  repeat' (first | exact ⟨_, rfl⟩ | split)

theorem tot_DigestForm_1 (c : Int) : ∃ r, spec_DigestForm_1.f c = some r := by
  unfold spec_DigestForm_1.f
  obtain ⟨r, h⟩ := tot_refWord c; rw [h]; simp only [Option.bind_some]
  repeat' (first | exact ⟨_, rfl⟩ | split)

theorem tot_RefHost_1 (c : Int) : ∃ r, spec_RefHost_1.f c = some r := by
  unfold spec_RefHost_1.f
  obtain ⟨r, h⟩ := tot_refHex c; rw [h]; simp only [Option.bind_some]
  repeat' (first | exact ⟨_, rfl⟩ | split)

theorem tot_RefComponent_1 (c : Int) : ∃ r, spec_RefComponent_1.f c = some r := by
  unfold spec_RefComponent_1.f
  obtain ⟨r, h⟩ := tot_refLower c; rw [h]; simp only [Option.bind_some]
  repeat' (first | exact ⟨_, rfl⟩ | split)

theorem tot_RefLabel_1 (c : Int) : ∃ r, spec_RefLabel_1.f c = some r := by
  unfold spec_RefLabel_1.f
  obtain ⟨r, h⟩ := tot_refAlnum c; rw [h]; simp only [Option.bind_some]
  repeat' (first | exact ⟨_, rfl⟩ | split)

theorem tot_RefSeparator_1 (c : Int) : ∃ r, spec_RefSeparator_1.f c = some r := by
  unfold spec_RefSeparator_1.f
  repeat' (first | exact ⟨_, rfl⟩ | split)

theorem isc_refDigit (c : Int) (w : World) : Calls Try.prog 33 #[.int .u8 c] w fun e w' => e = .returned (.bool (pB spec_refDigit.f c)) ∧ Drawn0 w w' :=
  spec_refDigit.calls c _ w (by obtain ⟨r, h⟩ := tot_refDigit c; unfold pB; rw [h]; rfl)

set_option maxHeartbeats 2000000 in
theorem run_refDigit (s : ByteArray) (i : Nat) (hi : i ≤ s.size) (hs : s.size ≤ 1099511627776) (w : World) :
    Calls Try.prog 41 #[.string s, .int .i64 (i : Int), .func (.func 33) #[] #[]] w fun e w' => e = .returned (.int .i64 ((i + runN (pB spec_refDigit.f) ((bl s).drop i) : Nat) : Int)) ∧ Drawn0 w w' := by
  obtain ⟨R, hR⟩ : ∃ R, i + runN (pB spec_refDigit.f) ((bl s).drop i) = R := ⟨_, rfl⟩
  have HR := Lib.hid hR
  rw [hR]
  clear hR
  go_enter Try.func41, Try.ntmps41
  go_wp2
  go_loopw [1] (fun v w' => ∃ k : Nat, v = .int .i64 (k : Int) ∧ k ≤ s.size ∧ Hid (k + runN (pB spec_refDigit.f) ((bl s).drop k) = R) ∧ Hid (Drawn0 w w')) (fun v _ => s.size - (intOf v).toNat)
  case atStart => exact ⟨i, rfl, hi, HR, Lib.hid (Drawn0.refl _)⟩
  case round =>
    obtain ⟨k, rfl, hk, HK, HD⟩ := hrel
    clear HR
    by_cases hlt : k < s.size
    · have C := Lib.hid (fun W => isc_refDigit (s[k].toNat : Int) W)
      cases hp : pB spec_refDigit.f (s[k].toNat : Int) with
      | true =>
        have H1 := Lib.hid (show k + 1 + runN (pB spec_refDigit.f) ((bl s).drop (k + 1)) = R by rw [← HK.out, runN_yes _ s k hlt hp]; omega)
        rw [hp] at C
        clear hp HK
        go_wp2_with (go_at_call 33; (with_reducible refine (C.out _).mono ?_); rintro e w1 ⟨rfl, ⟨n, rfl⟩⟩)
        go_roundw
        case rel => exact ⟨k + 1, by go_num, by omega, H1, Lib.hid (HD.out.step _)⟩
        case measure => simp [intOf]; omega
      | false =>
        have H1 := Lib.hid (show k = R by rw [← HK.out, runN_no _ s k hlt hp]; rfl)
        rw [hp] at C
        clear hp HK
        go_wp2_with (go_at_call 33; (with_reducible refine (C.out _).mono ?_); rintro e w1 ⟨rfl, ⟨n, rfl⟩⟩)
        go_ret
        exact ⟨by rw [← H1.out]; rfl, HD.out.step _⟩
    · have H1 := Lib.hid (show k = R by rw [← HK.out, runN_end _ s k (by omega)]; rfl)
      clear HK
      go_wp2
      go_ret
      exact ⟨by rw [← H1.out]; rfl, HD.out⟩

set_option maxHeartbeats 2000000 in
theorem all_refDigit (s : ByteArray) (hs : s.size ≤ 1099511627776) (w : World) :
    Calls Try.prog 28 #[.string s, .func (.func 33) #[] #[]] w fun e w' => e = .returned (.bool (allB (pB spec_refDigit.f) s)) ∧ Drawn0 w w' := by
  obtain ⟨R, hR⟩ : ∃ R, allB (pB spec_refDigit.f) s = R := ⟨_, rfl⟩
  rw [hR]
  cases he : (s.toList == ([] : List UInt8)) with
  | true =>
    have H1 := Lib.hid (show R = false by rw [← hR]; unfold allB; rw [he]; rfl)
    have he2 : s.toList = [] := by simpa using he
    clear he hR
    go_enter Try.func28, Try.ntmps28
    go_wp2
    go_ret
    exact ⟨by rw [H1.out]; rfl, Drawn0.refl _⟩
  | false =>
    have he2 : (s.toList = ([] : List UInt8)) = False := by simpa using he
    have he3 : (!s.toList.isEmpty) = true := by cases h : s.toList with | nil => rw [h] at he; simp at he | cons a b => rfl
    have C0 := (fun W => run_refDigit s 0 (Nat.zero_le _) hs W)
    rw [List.drop_zero, Nat.zero_add] at C0
    obtain ⟨N, hN⟩ : ∃ N, runN (pB spec_refDigit.f) (bl s) = N := ⟨_, rfl⟩
    rw [hN] at C0
    have C := Lib.hid (show ∀ W : World, Calls Try.prog 41 #[.string s, .int .i64 0, .func (.func 33) #[] #[]] W fun e w' => e = .returned (.int .i64 (N : Int)) ∧ Drawn0 W w' from C0)
    clear C0
    have H1 := Lib.hid (show R = decide (N = s.size) by rw [← hR]; unfold allB; rw [he, hN]; rfl)
    clear he hR hN
    by_cases hq : N = s.size
    · have H2 := Lib.hid (show R = true by rw [H1.out]; exact decide_eq_true hq)
      have hz2 : ((N : Int) == (s.size : Int)) = true := by rw [beq_iff_eq]; omega
      clear hq H1
      go_enter Try.func28, Try.ntmps28
      go_wp2_with (go_at_call 41; (with_reducible refine (C.out _).mono ?_); rintro e w1 ⟨rfl, ⟨n, rfl⟩⟩)
      go_ret
      exact ⟨by rw [H2.out]; rfl, (Drawn0.refl _).step _⟩
    · have H2 := Lib.hid (show R = false by rw [H1.out]; exact decide_eq_false hq)
      have hz2 : ((N : Int) == (s.size : Int)) = false := by rw [beq_eq_false_iff_ne]; omega
      clear hq H1
      go_enter Try.func28, Try.ntmps28
      go_wp2_with (go_at_call 41; (with_reducible refine (C.out _).mono ?_); rintro e w1 ⟨rfl, ⟨n, rfl⟩⟩)
      go_ret
      exact ⟨by rw [H2.out]; rfl, (Drawn0.refl _).step _⟩

theorem isc_refLower (c : Int) (w : World) : Calls Try.prog 38 #[.int .u8 c] w fun e w' => e = .returned (.bool (pB spec_refLower.f c)) ∧ Drawn0 w w' :=
  spec_refLower.calls c _ w (by obtain ⟨r, h⟩ := tot_refLower c; unfold pB; rw [h]; rfl)

set_option maxHeartbeats 2000000 in
theorem run_refLower (s : ByteArray) (i : Nat) (hi : i ≤ s.size) (hs : s.size ≤ 1099511627776) (w : World) :
    Calls Try.prog 41 #[.string s, .int .i64 (i : Int), .func (.func 38) #[] #[]] w fun e w' => e = .returned (.int .i64 ((i + runN (pB spec_refLower.f) ((bl s).drop i) : Nat) : Int)) ∧ Drawn0 w w' := by
  obtain ⟨R, hR⟩ : ∃ R, i + runN (pB spec_refLower.f) ((bl s).drop i) = R := ⟨_, rfl⟩
  have HR := Lib.hid hR
  rw [hR]
  clear hR
  go_enter Try.func41, Try.ntmps41
  go_wp2
  go_loopw [1] (fun v w' => ∃ k : Nat, v = .int .i64 (k : Int) ∧ k ≤ s.size ∧ Hid (k + runN (pB spec_refLower.f) ((bl s).drop k) = R) ∧ Hid (Drawn0 w w')) (fun v _ => s.size - (intOf v).toNat)
  case atStart => exact ⟨i, rfl, hi, HR, Lib.hid (Drawn0.refl _)⟩
  case round =>
    obtain ⟨k, rfl, hk, HK, HD⟩ := hrel
    clear HR
    by_cases hlt : k < s.size
    · have C := Lib.hid (fun W => isc_refLower (s[k].toNat : Int) W)
      cases hp : pB spec_refLower.f (s[k].toNat : Int) with
      | true =>
        have H1 := Lib.hid (show k + 1 + runN (pB spec_refLower.f) ((bl s).drop (k + 1)) = R by rw [← HK.out, runN_yes _ s k hlt hp]; omega)
        rw [hp] at C
        clear hp HK
        go_wp2_with (go_at_call 38; (with_reducible refine (C.out _).mono ?_); rintro e w1 ⟨rfl, ⟨n, rfl⟩⟩)
        go_roundw
        case rel => exact ⟨k + 1, by go_num, by omega, H1, Lib.hid (HD.out.step _)⟩
        case measure => simp [intOf]; omega
      | false =>
        have H1 := Lib.hid (show k = R by rw [← HK.out, runN_no _ s k hlt hp]; rfl)
        rw [hp] at C
        clear hp HK
        go_wp2_with (go_at_call 38; (with_reducible refine (C.out _).mono ?_); rintro e w1 ⟨rfl, ⟨n, rfl⟩⟩)
        go_ret
        exact ⟨by rw [← H1.out]; rfl, HD.out.step _⟩
    · have H1 := Lib.hid (show k = R by rw [← HK.out, runN_end _ s k (by omega)]; rfl)
      clear HK
      go_wp2
      go_ret
      exact ⟨by rw [← H1.out]; rfl, HD.out⟩

theorem isc_refHex (c : Int) (w : World) : Calls Try.prog 29 #[.int .u8 c] w fun e w' => e = .returned (.bool (pB spec_refHex.f c)) ∧ Drawn0 w w' :=
  spec_refHex.calls c _ w (by obtain ⟨r, h⟩ := tot_refHex c; unfold pB; rw [h]; rfl)

set_option maxHeartbeats 2000000 in
theorem run_refHex (s : ByteArray) (i : Nat) (hi : i ≤ s.size) (hs : s.size ≤ 1099511627776) (w : World) :
    Calls Try.prog 41 #[.string s, .int .i64 (i : Int), .func (.func 29) #[] #[]] w fun e w' => e = .returned (.int .i64 ((i + runN (pB spec_refHex.f) ((bl s).drop i) : Nat) : Int)) ∧ Drawn0 w w' := by
  obtain ⟨R, hR⟩ : ∃ R, i + runN (pB spec_refHex.f) ((bl s).drop i) = R := ⟨_, rfl⟩
  have HR := Lib.hid hR
  rw [hR]
  clear hR
  go_enter Try.func41, Try.ntmps41
  go_wp2
  go_loopw [1] (fun v w' => ∃ k : Nat, v = .int .i64 (k : Int) ∧ k ≤ s.size ∧ Hid (k + runN (pB spec_refHex.f) ((bl s).drop k) = R) ∧ Hid (Drawn0 w w')) (fun v _ => s.size - (intOf v).toNat)
  case atStart => exact ⟨i, rfl, hi, HR, Lib.hid (Drawn0.refl _)⟩
  case round =>
    obtain ⟨k, rfl, hk, HK, HD⟩ := hrel
    clear HR
    by_cases hlt : k < s.size
    · have C := Lib.hid (fun W => isc_refHex (s[k].toNat : Int) W)
      cases hp : pB spec_refHex.f (s[k].toNat : Int) with
      | true =>
        have H1 := Lib.hid (show k + 1 + runN (pB spec_refHex.f) ((bl s).drop (k + 1)) = R by rw [← HK.out, runN_yes _ s k hlt hp]; omega)
        rw [hp] at C
        clear hp HK
        go_wp2_with (go_at_call 29; (with_reducible refine (C.out _).mono ?_); rintro e w1 ⟨rfl, ⟨n, rfl⟩⟩)
        go_roundw
        case rel => exact ⟨k + 1, by go_num, by omega, H1, Lib.hid (HD.out.step _)⟩
        case measure => simp [intOf]; omega
      | false =>
        have H1 := Lib.hid (show k = R by rw [← HK.out, runN_no _ s k hlt hp]; rfl)
        rw [hp] at C
        clear hp HK
        go_wp2_with (go_at_call 29; (with_reducible refine (C.out _).mono ?_); rintro e w1 ⟨rfl, ⟨n, rfl⟩⟩)
        go_ret
        exact ⟨by rw [← H1.out]; rfl, HD.out.step _⟩
    · have H1 := Lib.hid (show k = R by rw [← HK.out, runN_end _ s k (by omega)]; rfl)
      clear HK
      go_wp2
      go_ret
      exact ⟨by rw [← H1.out]; rfl, HD.out⟩

set_option maxHeartbeats 2000000 in
theorem all_refHex (s : ByteArray) (hs : s.size ≤ 1099511627776) (w : World) :
    Calls Try.prog 28 #[.string s, .func (.func 29) #[] #[]] w fun e w' => e = .returned (.bool (allB (pB spec_refHex.f) s)) ∧ Drawn0 w w' := by
  obtain ⟨R, hR⟩ : ∃ R, allB (pB spec_refHex.f) s = R := ⟨_, rfl⟩
  rw [hR]
  cases he : (s.toList == ([] : List UInt8)) with
  | true =>
    have H1 := Lib.hid (show R = false by rw [← hR]; unfold allB; rw [he]; rfl)
    have he2 : s.toList = [] := by simpa using he
    clear he hR
    go_enter Try.func28, Try.ntmps28
    go_wp2
    go_ret
    exact ⟨by rw [H1.out]; rfl, Drawn0.refl _⟩
  | false =>
    have he2 : (s.toList = ([] : List UInt8)) = False := by simpa using he
    have he3 : (!s.toList.isEmpty) = true := by cases h : s.toList with | nil => rw [h] at he; simp at he | cons a b => rfl
    have C0 := (fun W => run_refHex s 0 (Nat.zero_le _) hs W)
    rw [List.drop_zero, Nat.zero_add] at C0
    obtain ⟨N, hN⟩ : ∃ N, runN (pB spec_refHex.f) (bl s) = N := ⟨_, rfl⟩
    rw [hN] at C0
    have C := Lib.hid (show ∀ W : World, Calls Try.prog 41 #[.string s, .int .i64 0, .func (.func 29) #[] #[]] W fun e w' => e = .returned (.int .i64 (N : Int)) ∧ Drawn0 W w' from C0)
    clear C0
    have H1 := Lib.hid (show R = decide (N = s.size) by rw [← hR]; unfold allB; rw [he, hN]; rfl)
    clear he hR hN
    by_cases hq : N = s.size
    · have H2 := Lib.hid (show R = true by rw [H1.out]; exact decide_eq_true hq)
      have hz2 : ((N : Int) == (s.size : Int)) = true := by rw [beq_iff_eq]; omega
      clear hq H1
      go_enter Try.func28, Try.ntmps28
      go_wp2_with (go_at_call 41; (with_reducible refine (C.out _).mono ?_); rintro e w1 ⟨rfl, ⟨n, rfl⟩⟩)
      go_ret
      exact ⟨by rw [H2.out]; rfl, (Drawn0.refl _).step _⟩
    · have H2 := Lib.hid (show R = false by rw [H1.out]; exact decide_eq_false hq)
      have hz2 : ((N : Int) == (s.size : Int)) = false := by rw [beq_eq_false_iff_ne]; omega
      clear hq H1
      go_enter Try.func28, Try.ntmps28
      go_wp2_with (go_at_call 41; (with_reducible refine (C.out _).mono ?_); rintro e w1 ⟨rfl, ⟨n, rfl⟩⟩)
      go_ret
      exact ⟨by rw [H2.out]; rfl, (Drawn0.refl _).step _⟩

theorem isc_refSmallHex (c : Int) (w : World) : Calls Try.prog 39 #[.int .u8 c] w fun e w' => e = .returned (.bool (pB spec_refSmallHex.f c)) ∧ Drawn0 w w' :=
  spec_refSmallHex.calls c _ w (by obtain ⟨r, h⟩ := tot_refSmallHex c; unfold pB; rw [h]; rfl)

set_option maxHeartbeats 2000000 in
theorem run_refSmallHex (s : ByteArray) (i : Nat) (hi : i ≤ s.size) (hs : s.size ≤ 1099511627776) (w : World) :
    Calls Try.prog 41 #[.string s, .int .i64 (i : Int), .func (.func 39) #[] #[]] w fun e w' => e = .returned (.int .i64 ((i + runN (pB spec_refSmallHex.f) ((bl s).drop i) : Nat) : Int)) ∧ Drawn0 w w' := by
  obtain ⟨R, hR⟩ : ∃ R, i + runN (pB spec_refSmallHex.f) ((bl s).drop i) = R := ⟨_, rfl⟩
  have HR := Lib.hid hR
  rw [hR]
  clear hR
  go_enter Try.func41, Try.ntmps41
  go_wp2
  go_loopw [1] (fun v w' => ∃ k : Nat, v = .int .i64 (k : Int) ∧ k ≤ s.size ∧ Hid (k + runN (pB spec_refSmallHex.f) ((bl s).drop k) = R) ∧ Hid (Drawn0 w w')) (fun v _ => s.size - (intOf v).toNat)
  case atStart => exact ⟨i, rfl, hi, HR, Lib.hid (Drawn0.refl _)⟩
  case round =>
    obtain ⟨k, rfl, hk, HK, HD⟩ := hrel
    clear HR
    by_cases hlt : k < s.size
    · have C := Lib.hid (fun W => isc_refSmallHex (s[k].toNat : Int) W)
      cases hp : pB spec_refSmallHex.f (s[k].toNat : Int) with
      | true =>
        have H1 := Lib.hid (show k + 1 + runN (pB spec_refSmallHex.f) ((bl s).drop (k + 1)) = R by rw [← HK.out, runN_yes _ s k hlt hp]; omega)
        rw [hp] at C
        clear hp HK
        go_wp2_with (go_at_call 39; (with_reducible refine (C.out _).mono ?_); rintro e w1 ⟨rfl, ⟨n, rfl⟩⟩)
        go_roundw
        case rel => exact ⟨k + 1, by go_num, by omega, H1, Lib.hid (HD.out.step _)⟩
        case measure => simp [intOf]; omega
      | false =>
        have H1 := Lib.hid (show k = R by rw [← HK.out, runN_no _ s k hlt hp]; rfl)
        rw [hp] at C
        clear hp HK
        go_wp2_with (go_at_call 39; (with_reducible refine (C.out _).mono ?_); rintro e w1 ⟨rfl, ⟨n, rfl⟩⟩)
        go_ret
        exact ⟨by rw [← H1.out]; rfl, HD.out.step _⟩
    · have H1 := Lib.hid (show k = R by rw [← HK.out, runN_end _ s k (by omega)]; rfl)
      clear HK
      go_wp2
      go_ret
      exact ⟨by rw [← H1.out]; rfl, HD.out⟩

set_option maxHeartbeats 2000000 in
theorem all_refSmallHex (s : ByteArray) (hs : s.size ≤ 1099511627776) (w : World) :
    Calls Try.prog 28 #[.string s, .func (.func 39) #[] #[]] w fun e w' => e = .returned (.bool (allB (pB spec_refSmallHex.f) s)) ∧ Drawn0 w w' := by
  obtain ⟨R, hR⟩ : ∃ R, allB (pB spec_refSmallHex.f) s = R := ⟨_, rfl⟩
  rw [hR]
  cases he : (s.toList == ([] : List UInt8)) with
  | true =>
    have H1 := Lib.hid (show R = false by rw [← hR]; unfold allB; rw [he]; rfl)
    have he2 : s.toList = [] := by simpa using he
    clear he hR
    go_enter Try.func28, Try.ntmps28
    go_wp2
    go_ret
    exact ⟨by rw [H1.out]; rfl, Drawn0.refl _⟩
  | false =>
    have he2 : (s.toList = ([] : List UInt8)) = False := by simpa using he
    have he3 : (!s.toList.isEmpty) = true := by cases h : s.toList with | nil => rw [h] at he; simp at he | cons a b => rfl
    have C0 := (fun W => run_refSmallHex s 0 (Nat.zero_le _) hs W)
    rw [List.drop_zero, Nat.zero_add] at C0
    obtain ⟨N, hN⟩ : ∃ N, runN (pB spec_refSmallHex.f) (bl s) = N := ⟨_, rfl⟩
    rw [hN] at C0
    have C := Lib.hid (show ∀ W : World, Calls Try.prog 41 #[.string s, .int .i64 0, .func (.func 39) #[] #[]] W fun e w' => e = .returned (.int .i64 (N : Int)) ∧ Drawn0 W w' from C0)
    clear C0
    have H1 := Lib.hid (show R = decide (N = s.size) by rw [← hR]; unfold allB; rw [he, hN]; rfl)
    clear he hR hN
    by_cases hq : N = s.size
    · have H2 := Lib.hid (show R = true by rw [H1.out]; exact decide_eq_true hq)
      have hz2 : ((N : Int) == (s.size : Int)) = true := by rw [beq_iff_eq]; omega
      clear hq H1
      go_enter Try.func28, Try.ntmps28
      go_wp2_with (go_at_call 41; (with_reducible refine (C.out _).mono ?_); rintro e w1 ⟨rfl, ⟨n, rfl⟩⟩)
      go_ret
      exact ⟨by rw [H2.out]; rfl, (Drawn0.refl _).step _⟩
    · have H2 := Lib.hid (show R = false by rw [H1.out]; exact decide_eq_false hq)
      have hz2 : ((N : Int) == (s.size : Int)) = false := by rw [beq_eq_false_iff_ne]; omega
      clear hq H1
      go_enter Try.func28, Try.ntmps28
      go_wp2_with (go_at_call 41; (with_reducible refine (C.out _).mono ?_); rintro e w1 ⟨rfl, ⟨n, rfl⟩⟩)
      go_ret
      exact ⟨by rw [H2.out]; rfl, (Drawn0.refl _).step _⟩

theorem isc_RefIsTag_1 (c : Int) (w : World) : Calls Try.prog 30 #[.int .u8 c] w fun e w' => e = .returned (.bool (pB spec_RefIsTag_1.f c)) ∧ Drawn0 w w' :=
  spec_RefIsTag_1.calls c _ w (by obtain ⟨r, h⟩ := tot_RefIsTag_1 c; unfold pB; rw [h]; rfl)

set_option maxHeartbeats 2000000 in
theorem run_RefIsTag_1 (s : ByteArray) (i : Nat) (hi : i ≤ s.size) (hs : s.size ≤ 1099511627776) (w : World) :
    Calls Try.prog 41 #[.string s, .int .i64 (i : Int), .func (.func 30) #[] #[]] w fun e w' => e = .returned (.int .i64 ((i + runN (pB spec_RefIsTag_1.f) ((bl s).drop i) : Nat) : Int)) ∧ Drawn0 w w' := by
  obtain ⟨R, hR⟩ : ∃ R, i + runN (pB spec_RefIsTag_1.f) ((bl s).drop i) = R := ⟨_, rfl⟩
  have HR := Lib.hid hR
  rw [hR]
  clear hR
  go_enter Try.func41, Try.ntmps41
  go_wp2
  go_loopw [1] (fun v w' => ∃ k : Nat, v = .int .i64 (k : Int) ∧ k ≤ s.size ∧ Hid (k + runN (pB spec_RefIsTag_1.f) ((bl s).drop k) = R) ∧ Hid (Drawn0 w w')) (fun v _ => s.size - (intOf v).toNat)
  case atStart => exact ⟨i, rfl, hi, HR, Lib.hid (Drawn0.refl _)⟩
  case round =>
    obtain ⟨k, rfl, hk, HK, HD⟩ := hrel
    clear HR
    by_cases hlt : k < s.size
    · have C := Lib.hid (fun W => isc_RefIsTag_1 (s[k].toNat : Int) W)
      cases hp : pB spec_RefIsTag_1.f (s[k].toNat : Int) with
      | true =>
        have H1 := Lib.hid (show k + 1 + runN (pB spec_RefIsTag_1.f) ((bl s).drop (k + 1)) = R by rw [← HK.out, runN_yes _ s k hlt hp]; omega)
        rw [hp] at C
        clear hp HK
        go_wp2_with (go_at_call 30; (with_reducible refine (C.out _).mono ?_); rintro e w1 ⟨rfl, ⟨n, rfl⟩⟩)
        go_roundw
        case rel => exact ⟨k + 1, by go_num, by omega, H1, Lib.hid (HD.out.step _)⟩
        case measure => simp [intOf]; omega
      | false =>
        have H1 := Lib.hid (show k = R by rw [← HK.out, runN_no _ s k hlt hp]; rfl)
        rw [hp] at C
        clear hp HK
        go_wp2_with (go_at_call 30; (with_reducible refine (C.out _).mono ?_); rintro e w1 ⟨rfl, ⟨n, rfl⟩⟩)
        go_ret
        exact ⟨by rw [← H1.out]; rfl, HD.out.step _⟩
    · have H1 := Lib.hid (show k = R by rw [← HK.out, runN_end _ s k (by omega)]; rfl)
      clear HK
      go_wp2
      go_ret
      exact ⟨by rw [← H1.out]; rfl, HD.out⟩

set_option maxHeartbeats 2000000 in
theorem all_RefIsTag_1 (s : ByteArray) (hs : s.size ≤ 1099511627776) (w : World) :
    Calls Try.prog 28 #[.string s, .func (.func 30) #[] #[]] w fun e w' => e = .returned (.bool (allB (pB spec_RefIsTag_1.f) s)) ∧ Drawn0 w w' := by
  obtain ⟨R, hR⟩ : ∃ R, allB (pB spec_RefIsTag_1.f) s = R := ⟨_, rfl⟩
  rw [hR]
  cases he : (s.toList == ([] : List UInt8)) with
  | true =>
    have H1 := Lib.hid (show R = false by rw [← hR]; unfold allB; rw [he]; rfl)
    have he2 : s.toList = [] := by simpa using he
    clear he hR
    go_enter Try.func28, Try.ntmps28
    go_wp2
    go_ret
    exact ⟨by rw [H1.out]; rfl, Drawn0.refl _⟩
  | false =>
    have he2 : (s.toList = ([] : List UInt8)) = False := by simpa using he
    have he3 : (!s.toList.isEmpty) = true := by cases h : s.toList with | nil => rw [h] at he; simp at he | cons a b => rfl
    have C0 := (fun W => run_RefIsTag_1 s 0 (Nat.zero_le _) hs W)
    rw [List.drop_zero, Nat.zero_add] at C0
    obtain ⟨N, hN⟩ : ∃ N, runN (pB spec_RefIsTag_1.f) (bl s) = N := ⟨_, rfl⟩
    rw [hN] at C0
    have C := Lib.hid (show ∀ W : World, Calls Try.prog 41 #[.string s, .int .i64 0, .func (.func 30) #[] #[]] W fun e w' => e = .returned (.int .i64 (N : Int)) ∧ Drawn0 W w' from C0)
    clear C0
    have H1 := Lib.hid (show R = decide (N = s.size) by rw [← hR]; unfold allB; rw [he, hN]; rfl)
    clear he hR hN
    by_cases hq : N = s.size
    · have H2 := Lib.hid (show R = true by rw [H1.out]; exact decide_eq_true hq)
      have hz2 : ((N : Int) == (s.size : Int)) = true := by rw [beq_iff_eq]; omega
      clear hq H1
      go_enter Try.func28, Try.ntmps28
      go_wp2_with (go_at_call 41; (with_reducible refine (C.out _).mono ?_); rintro e w1 ⟨rfl, ⟨n, rfl⟩⟩)
      go_ret
      exact ⟨by rw [H2.out]; rfl, (Drawn0.refl _).step _⟩
    · have H2 := Lib.hid (show R = false by rw [H1.out]; exact decide_eq_false hq)
      have hz2 : ((N : Int) == (s.size : Int)) = false := by rw [beq_eq_false_iff_ne]; omega
      clear hq H1
      go_enter Try.func28, Try.ntmps28
      go_wp2_with (go_at_call 41; (with_reducible refine (C.out _).mono ?_); rintro e w1 ⟨rfl, ⟨n, rfl⟩⟩)
      go_ret
      exact ⟨by rw [H2.out]; rfl, (Drawn0.refl _).step _⟩

theorem isc_DigestForm_1 (c : Int) (w : World) : Calls Try.prog 37 #[.int .u8 c] w fun e w' => e = .returned (.bool (pB spec_DigestForm_1.f c)) ∧ Drawn0 w w' :=
  spec_DigestForm_1.calls c _ w (by obtain ⟨r, h⟩ := tot_DigestForm_1 c; unfold pB; rw [h]; rfl)

set_option maxHeartbeats 2000000 in
theorem run_DigestForm_1 (s : ByteArray) (i : Nat) (hi : i ≤ s.size) (hs : s.size ≤ 1099511627776) (w : World) :
    Calls Try.prog 41 #[.string s, .int .i64 (i : Int), .func (.func 37) #[] #[]] w fun e w' => e = .returned (.int .i64 ((i + runN (pB spec_DigestForm_1.f) ((bl s).drop i) : Nat) : Int)) ∧ Drawn0 w w' := by
  obtain ⟨R, hR⟩ : ∃ R, i + runN (pB spec_DigestForm_1.f) ((bl s).drop i) = R := ⟨_, rfl⟩
  have HR := Lib.hid hR
  rw [hR]
  clear hR
  go_enter Try.func41, Try.ntmps41
  go_wp2
  go_loopw [1] (fun v w' => ∃ k : Nat, v = .int .i64 (k : Int) ∧ k ≤ s.size ∧ Hid (k + runN (pB spec_DigestForm_1.f) ((bl s).drop k) = R) ∧ Hid (Drawn0 w w')) (fun v _ => s.size - (intOf v).toNat)
  case atStart => exact ⟨i, rfl, hi, HR, Lib.hid (Drawn0.refl _)⟩
  case round =>
    obtain ⟨k, rfl, hk, HK, HD⟩ := hrel
    clear HR
    by_cases hlt : k < s.size
    · have C := Lib.hid (fun W => isc_DigestForm_1 (s[k].toNat : Int) W)
      cases hp : pB spec_DigestForm_1.f (s[k].toNat : Int) with
      | true =>
        have H1 := Lib.hid (show k + 1 + runN (pB spec_DigestForm_1.f) ((bl s).drop (k + 1)) = R by rw [← HK.out, runN_yes _ s k hlt hp]; omega)
        rw [hp] at C
        clear hp HK
        go_wp2_with (go_at_call 37; (with_reducible refine (C.out _).mono ?_); rintro e w1 ⟨rfl, ⟨n, rfl⟩⟩)
        go_roundw
        case rel => exact ⟨k + 1, by go_num, by omega, H1, Lib.hid (HD.out.step _)⟩
        case measure => simp [intOf]; omega
      | false =>
        have H1 := Lib.hid (show k = R by rw [← HK.out, runN_no _ s k hlt hp]; rfl)
        rw [hp] at C
        clear hp HK
        go_wp2_with (go_at_call 37; (with_reducible refine (C.out _).mono ?_); rintro e w1 ⟨rfl, ⟨n, rfl⟩⟩)
        go_ret
        exact ⟨by rw [← H1.out]; rfl, HD.out.step _⟩
    · have H1 := Lib.hid (show k = R by rw [← HK.out, runN_end _ s k (by omega)]; rfl)
      clear HK
      go_wp2
      go_ret
      exact ⟨by rw [← H1.out]; rfl, HD.out⟩

set_option maxHeartbeats 2000000 in
theorem all_DigestForm_1 (s : ByteArray) (hs : s.size ≤ 1099511627776) (w : World) :
    Calls Try.prog 28 #[.string s, .func (.func 37) #[] #[]] w fun e w' => e = .returned (.bool (allB (pB spec_DigestForm_1.f) s)) ∧ Drawn0 w w' := by
  obtain ⟨R, hR⟩ : ∃ R, allB (pB spec_DigestForm_1.f) s = R := ⟨_, rfl⟩
  rw [hR]
  cases he : (s.toList == ([] : List UInt8)) with
  | true =>
    have H1 := Lib.hid (show R = false by rw [← hR]; unfold allB; rw [he]; rfl)
    have he2 : s.toList = [] := by simpa using he
    clear he hR
    go_enter Try.func28, Try.ntmps28
    go_wp2
    go_ret
    exact ⟨by rw [H1.out]; rfl, Drawn0.refl _⟩
  | false =>
    have he2 : (s.toList = ([] : List UInt8)) = False := by simpa using he
    have he3 : (!s.toList.isEmpty) = true := by cases h : s.toList with | nil => rw [h] at he; simp at he | cons a b => rfl
    have C0 := (fun W => run_DigestForm_1 s 0 (Nat.zero_le _) hs W)
    rw [List.drop_zero, Nat.zero_add] at C0
    obtain ⟨N, hN⟩ : ∃ N, runN (pB spec_DigestForm_1.f) (bl s) = N := ⟨_, rfl⟩
    rw [hN] at C0
    have C := Lib.hid (show ∀ W : World, Calls Try.prog 41 #[.string s, .int .i64 0, .func (.func 37) #[] #[]] W fun e w' => e = .returned (.int .i64 (N : Int)) ∧ Drawn0 W w' from C0)
    clear C0
    have H1 := Lib.hid (show R = decide (N = s.size) by rw [← hR]; unfold allB; rw [he, hN]; rfl)
    clear he hR hN
    by_cases hq : N = s.size
    · have H2 := Lib.hid (show R = true by rw [H1.out]; exact decide_eq_true hq)
      have hz2 : ((N : Int) == (s.size : Int)) = true := by rw [beq_iff_eq]; omega
      clear hq H1
      go_enter Try.func28, Try.ntmps28
      go_wp2_with (go_at_call 41; (with_reducible refine (C.out _).mono ?_); rintro e w1 ⟨rfl, ⟨n, rfl⟩⟩)
      go_ret
      exact ⟨by rw [H2.out]; rfl, (Drawn0.refl _).step _⟩
    · have H2 := Lib.hid (show R = false by rw [H1.out]; exact decide_eq_false hq)
      have hz2 : ((N : Int) == (s.size : Int)) = false := by rw [beq_eq_false_iff_ne]; omega
      clear hq H1
      go_enter Try.func28, Try.ntmps28
      go_wp2_with (go_at_call 41; (with_reducible refine (C.out _).mono ?_); rintro e w1 ⟨rfl, ⟨n, rfl⟩⟩)
      go_ret
      exact ⟨by rw [H2.out]; rfl, (Drawn0.refl _).step _⟩

theorem isc_RefHost_1 (c : Int) (w : World) : Calls Try.prog 42 #[.int .u8 c] w fun e w' => e = .returned (.bool (pB spec_RefHost_1.f c)) ∧ Drawn0 w w' :=
  spec_RefHost_1.calls c _ w (by obtain ⟨r, h⟩ := tot_RefHost_1 c; unfold pB; rw [h]; rfl)

set_option maxHeartbeats 2000000 in
theorem run_RefHost_1 (s : ByteArray) (i : Nat) (hi : i ≤ s.size) (hs : s.size ≤ 1099511627776) (w : World) :
    Calls Try.prog 41 #[.string s, .int .i64 (i : Int), .func (.func 42) #[] #[]] w fun e w' => e = .returned (.int .i64 ((i + runN (pB spec_RefHost_1.f) ((bl s).drop i) : Nat) : Int)) ∧ Drawn0 w w' := by
  obtain ⟨R, hR⟩ : ∃ R, i + runN (pB spec_RefHost_1.f) ((bl s).drop i) = R := ⟨_, rfl⟩
  have HR := Lib.hid hR
  rw [hR]
  clear hR
  go_enter Try.func41, Try.ntmps41
  go_wp2
  go_loopw [1] (fun v w' => ∃ k : Nat, v = .int .i64 (k : Int) ∧ k ≤ s.size ∧ Hid (k + runN (pB spec_RefHost_1.f) ((bl s).drop k) = R) ∧ Hid (Drawn0 w w')) (fun v _ => s.size - (intOf v).toNat)
  case atStart => exact ⟨i, rfl, hi, HR, Lib.hid (Drawn0.refl _)⟩
  case round =>
    obtain ⟨k, rfl, hk, HK, HD⟩ := hrel
    clear HR
    by_cases hlt : k < s.size
    · have C := Lib.hid (fun W => isc_RefHost_1 (s[k].toNat : Int) W)
      cases hp : pB spec_RefHost_1.f (s[k].toNat : Int) with
      | true =>
        have H1 := Lib.hid (show k + 1 + runN (pB spec_RefHost_1.f) ((bl s).drop (k + 1)) = R by rw [← HK.out, runN_yes _ s k hlt hp]; omega)
        rw [hp] at C
        clear hp HK
        go_wp2_with (go_at_call 42; (with_reducible refine (C.out _).mono ?_); rintro e w1 ⟨rfl, ⟨n, rfl⟩⟩)
        go_roundw
        case rel => exact ⟨k + 1, by go_num, by omega, H1, Lib.hid (HD.out.step _)⟩
        case measure => simp [intOf]; omega
      | false =>
        have H1 := Lib.hid (show k = R by rw [← HK.out, runN_no _ s k hlt hp]; rfl)
        rw [hp] at C
        clear hp HK
        go_wp2_with (go_at_call 42; (with_reducible refine (C.out _).mono ?_); rintro e w1 ⟨rfl, ⟨n, rfl⟩⟩)
        go_ret
        exact ⟨by rw [← H1.out]; rfl, HD.out.step _⟩
    · have H1 := Lib.hid (show k = R by rw [← HK.out, runN_end _ s k (by omega)]; rfl)
      clear HK
      go_wp2
      go_ret
      exact ⟨by rw [← H1.out]; rfl, HD.out⟩

set_option maxHeartbeats 2000000 in
theorem all_RefHost_1 (s : ByteArray) (hs : s.size ≤ 1099511627776) (w : World) :
    Calls Try.prog 28 #[.string s, .func (.func 42) #[] #[]] w fun e w' => e = .returned (.bool (allB (pB spec_RefHost_1.f) s)) ∧ Drawn0 w w' := by
  obtain ⟨R, hR⟩ : ∃ R, allB (pB spec_RefHost_1.f) s = R := ⟨_, rfl⟩
  rw [hR]
  cases he : (s.toList == ([] : List UInt8)) with
  | true =>
    have H1 := Lib.hid (show R = false by rw [← hR]; unfold allB; rw [he]; rfl)
    have he2 : s.toList = [] := by simpa using he
    clear he hR
    go_enter Try.func28, Try.ntmps28
    go_wp2
    go_ret
    exact ⟨by rw [H1.out]; rfl, Drawn0.refl _⟩
  | false =>
    have he2 : (s.toList = ([] : List UInt8)) = False := by simpa using he
    have he3 : (!s.toList.isEmpty) = true := by cases h : s.toList with | nil => rw [h] at he; simp at he | cons a b => rfl
    have C0 := (fun W => run_RefHost_1 s 0 (Nat.zero_le _) hs W)
    rw [List.drop_zero, Nat.zero_add] at C0
    obtain ⟨N, hN⟩ : ∃ N, runN (pB spec_RefHost_1.f) (bl s) = N := ⟨_, rfl⟩
    rw [hN] at C0
    have C := Lib.hid (show ∀ W : World, Calls Try.prog 41 #[.string s, .int .i64 0, .func (.func 42) #[] #[]] W fun e w' => e = .returned (.int .i64 (N : Int)) ∧ Drawn0 W w' from C0)
    clear C0
    have H1 := Lib.hid (show R = decide (N = s.size) by rw [← hR]; unfold allB; rw [he, hN]; rfl)
    clear he hR hN
    by_cases hq : N = s.size
    · have H2 := Lib.hid (show R = true by rw [H1.out]; exact decide_eq_true hq)
      have hz2 : ((N : Int) == (s.size : Int)) = true := by rw [beq_iff_eq]; omega
      clear hq H1
      go_enter Try.func28, Try.ntmps28
      go_wp2_with (go_at_call 41; (with_reducible refine (C.out _).mono ?_); rintro e w1 ⟨rfl, ⟨n, rfl⟩⟩)
      go_ret
      exact ⟨by rw [H2.out]; rfl, (Drawn0.refl _).step _⟩
    · have H2 := Lib.hid (show R = false by rw [H1.out]; exact decide_eq_false hq)
      have hz2 : ((N : Int) == (s.size : Int)) = false := by rw [beq_eq_false_iff_ne]; omega
      clear hq H1
      go_enter Try.func28, Try.ntmps28
      go_wp2_with (go_at_call 41; (with_reducible refine (C.out _).mono ?_); rintro e w1 ⟨rfl, ⟨n, rfl⟩⟩)
      go_ret
      exact ⟨by rw [H2.out]; rfl, (Drawn0.refl _).step _⟩

theorem isc_RefComponent_1 (c : Int) (w : World) : Calls Try.prog 44 #[.int .u8 c] w fun e w' => e = .returned (.bool (pB spec_RefComponent_1.f c)) ∧ Drawn0 w w' :=
  spec_RefComponent_1.calls c _ w (by obtain ⟨r, h⟩ := tot_RefComponent_1 c; unfold pB; rw [h]; rfl)

set_option maxHeartbeats 2000000 in
theorem run_RefComponent_1 (s : ByteArray) (i : Nat) (hi : i ≤ s.size) (hs : s.size ≤ 1099511627776) (w : World) :
    Calls Try.prog 41 #[.string s, .int .i64 (i : Int), .func (.func 44) #[] #[]] w fun e w' => e = .returned (.int .i64 ((i + runN (pB spec_RefComponent_1.f) ((bl s).drop i) : Nat) : Int)) ∧ Drawn0 w w' := by
  obtain ⟨R, hR⟩ : ∃ R, i + runN (pB spec_RefComponent_1.f) ((bl s).drop i) = R := ⟨_, rfl⟩
  have HR := Lib.hid hR
  rw [hR]
  clear hR
  go_enter Try.func41, Try.ntmps41
  go_wp2
  go_loopw [1] (fun v w' => ∃ k : Nat, v = .int .i64 (k : Int) ∧ k ≤ s.size ∧ Hid (k + runN (pB spec_RefComponent_1.f) ((bl s).drop k) = R) ∧ Hid (Drawn0 w w')) (fun v _ => s.size - (intOf v).toNat)
  case atStart => exact ⟨i, rfl, hi, HR, Lib.hid (Drawn0.refl _)⟩
  case round =>
    obtain ⟨k, rfl, hk, HK, HD⟩ := hrel
    clear HR
    by_cases hlt : k < s.size
    · have C := Lib.hid (fun W => isc_RefComponent_1 (s[k].toNat : Int) W)
      cases hp : pB spec_RefComponent_1.f (s[k].toNat : Int) with
      | true =>
        have H1 := Lib.hid (show k + 1 + runN (pB spec_RefComponent_1.f) ((bl s).drop (k + 1)) = R by rw [← HK.out, runN_yes _ s k hlt hp]; omega)
        rw [hp] at C
        clear hp HK
        go_wp2_with (go_at_call 44; (with_reducible refine (C.out _).mono ?_); rintro e w1 ⟨rfl, ⟨n, rfl⟩⟩)
        go_roundw
        case rel => exact ⟨k + 1, by go_num, by omega, H1, Lib.hid (HD.out.step _)⟩
        case measure => simp [intOf]; omega
      | false =>
        have H1 := Lib.hid (show k = R by rw [← HK.out, runN_no _ s k hlt hp]; rfl)
        rw [hp] at C
        clear hp HK
        go_wp2_with (go_at_call 44; (with_reducible refine (C.out _).mono ?_); rintro e w1 ⟨rfl, ⟨n, rfl⟩⟩)
        go_ret
        exact ⟨by rw [← H1.out]; rfl, HD.out.step _⟩
    · have H1 := Lib.hid (show k = R by rw [← HK.out, runN_end _ s k (by omega)]; rfl)
      clear HK
      go_wp2
      go_ret
      exact ⟨by rw [← H1.out]; rfl, HD.out⟩

theorem isc_RefLabel_1 (c : Int) (w : World) : Calls Try.prog 46 #[.int .u8 c] w fun e w' => e = .returned (.bool (pB spec_RefLabel_1.f c)) ∧ Drawn0 w w' :=
  spec_RefLabel_1.calls c _ w (by obtain ⟨r, h⟩ := tot_RefLabel_1 c; unfold pB; rw [h]; rfl)

set_option maxHeartbeats 2000000 in
theorem run_RefLabel_1 (s : ByteArray) (i : Nat) (hi : i ≤ s.size) (hs : s.size ≤ 1099511627776) (w : World) :
    Calls Try.prog 41 #[.string s, .int .i64 (i : Int), .func (.func 46) #[] #[]] w fun e w' => e = .returned (.int .i64 ((i + runN (pB spec_RefLabel_1.f) ((bl s).drop i) : Nat) : Int)) ∧ Drawn0 w w' := by
  obtain ⟨R, hR⟩ : ∃ R, i + runN (pB spec_RefLabel_1.f) ((bl s).drop i) = R := ⟨_, rfl⟩
  have HR := Lib.hid hR
  rw [hR]
  clear hR
  go_enter Try.func41, Try.ntmps41
  go_wp2
  go_loopw [1] (fun v w' => ∃ k : Nat, v = .int .i64 (k : Int) ∧ k ≤ s.size ∧ Hid (k + runN (pB spec_RefLabel_1.f) ((bl s).drop k) = R) ∧ Hid (Drawn0 w w')) (fun v _ => s.size - (intOf v).toNat)
  case atStart => exact ⟨i, rfl, hi, HR, Lib.hid (Drawn0.refl _)⟩
  case round =>
    obtain ⟨k, rfl, hk, HK, HD⟩ := hrel
    clear HR
    by_cases hlt : k < s.size
    · have C := Lib.hid (fun W => isc_RefLabel_1 (s[k].toNat : Int) W)
      cases hp : pB spec_RefLabel_1.f (s[k].toNat : Int) with
      | true =>
        have H1 := Lib.hid (show k + 1 + runN (pB spec_RefLabel_1.f) ((bl s).drop (k + 1)) = R by rw [← HK.out, runN_yes _ s k hlt hp]; omega)
        rw [hp] at C
        clear hp HK
        go_wp2_with (go_at_call 46; (with_reducible refine (C.out _).mono ?_); rintro e w1 ⟨rfl, ⟨n, rfl⟩⟩)
        go_roundw
        case rel => exact ⟨k + 1, by go_num, by omega, H1, Lib.hid (HD.out.step _)⟩
        case measure => simp [intOf]; omega
      | false =>
        have H1 := Lib.hid (show k = R by rw [← HK.out, runN_no _ s k hlt hp]; rfl)
        rw [hp] at C
        clear hp HK
        go_wp2_with (go_at_call 46; (with_reducible refine (C.out _).mono ?_); rintro e w1 ⟨rfl, ⟨n, rfl⟩⟩)
        go_ret
        exact ⟨by rw [← H1.out]; rfl, HD.out.step _⟩
    · have H1 := Lib.hid (show k = R by rw [← HK.out, runN_end _ s k (by omega)]; rfl)
      clear HK
      go_wp2
      go_ret
      exact ⟨by rw [← H1.out]; rfl, HD.out⟩

set_option maxHeartbeats 2000000 in
theorem all_RefLabel_1 (s : ByteArray) (hs : s.size ≤ 1099511627776) (w : World) :
    Calls Try.prog 28 #[.string s, .func (.func 46) #[] #[]] w fun e w' => e = .returned (.bool (allB (pB spec_RefLabel_1.f) s)) ∧ Drawn0 w w' := by
  obtain ⟨R, hR⟩ : ∃ R, allB (pB spec_RefLabel_1.f) s = R := ⟨_, rfl⟩
  rw [hR]
  cases he : (s.toList == ([] : List UInt8)) with
  | true =>
    have H1 := Lib.hid (show R = false by rw [← hR]; unfold allB; rw [he]; rfl)
    have he2 : s.toList = [] := by simpa using he
    clear he hR
    go_enter Try.func28, Try.ntmps28
    go_wp2
    go_ret
    exact ⟨by rw [H1.out]; rfl, Drawn0.refl _⟩
  | false =>
    have he2 : (s.toList = ([] : List UInt8)) = False := by simpa using he
    have he3 : (!s.toList.isEmpty) = true := by cases h : s.toList with | nil => rw [h] at he; simp at he | cons a b => rfl
    have C0 := (fun W => run_RefLabel_1 s 0 (Nat.zero_le _) hs W)
    rw [List.drop_zero, Nat.zero_add] at C0
    obtain ⟨N, hN⟩ : ∃ N, runN (pB spec_RefLabel_1.f) (bl s) = N := ⟨_, rfl⟩
    rw [hN] at C0
    have C := Lib.hid (show ∀ W : World, Calls Try.prog 41 #[.string s, .int .i64 0, .func (.func 46) #[] #[]] W fun e w' => e = .returned (.int .i64 (N : Int)) ∧ Drawn0 W w' from C0)
    clear C0
    have H1 := Lib.hid (show R = decide (N = s.size) by rw [← hR]; unfold allB; rw [he, hN]; rfl)
    clear he hR hN
    by_cases hq : N = s.size
    · have H2 := Lib.hid (show R = true by rw [H1.out]; exact decide_eq_true hq)
      have hz2 : ((N : Int) == (s.size : Int)) = true := by rw [beq_iff_eq]; omega
      clear hq H1
      go_enter Try.func28, Try.ntmps28
      go_wp2_with (go_at_call 41; (with_reducible refine (C.out _).mono ?_); rintro e w1 ⟨rfl, ⟨n, rfl⟩⟩)
      go_ret
      exact ⟨by rw [H2.out]; rfl, (Drawn0.refl _).step _⟩
    · have H2 := Lib.hid (show R = false by rw [H1.out]; exact decide_eq_false hq)
      have hz2 : ((N : Int) == (s.size : Int)) = false := by rw [beq_eq_false_iff_ne]; omega
      clear hq H1
      go_enter Try.func28, Try.ntmps28
      go_wp2_with (go_at_call 41; (with_reducible refine (C.out _).mono ?_); rintro e w1 ⟨rfl, ⟨n, rfl⟩⟩)
      go_ret
      exact ⟨by rw [H2.out]; rfl, (Drawn0.refl _).step _⟩

theorem isc_RefSeparator_1 (c : Int) (w : World) : Calls Try.prog 47 #[.int .u8 c] w fun e w' => e = .returned (.bool (pB spec_RefSeparator_1.f c)) ∧ Drawn0 w w' :=
  spec_RefSeparator_1.calls c _ w (by obtain ⟨r, h⟩ := tot_RefSeparator_1 c; unfold pB; rw [h]; rfl)

set_option maxHeartbeats 2000000 in
theorem run_RefSeparator_1 (s : ByteArray) (i : Nat) (hi : i ≤ s.size) (hs : s.size ≤ 1099511627776) (w : World) :
    Calls Try.prog 41 #[.string s, .int .i64 (i : Int), .func (.func 47) #[] #[]] w fun e w' => e = .returned (.int .i64 ((i + runN (pB spec_RefSeparator_1.f) ((bl s).drop i) : Nat) : Int)) ∧ Drawn0 w w' := by
  obtain ⟨R, hR⟩ : ∃ R, i + runN (pB spec_RefSeparator_1.f) ((bl s).drop i) = R := ⟨_, rfl⟩
  have HR := Lib.hid hR
  rw [hR]
  clear hR
  go_enter Try.func41, Try.ntmps41
  go_wp2
  go_loopw [1] (fun v w' => ∃ k : Nat, v = .int .i64 (k : Int) ∧ k ≤ s.size ∧ Hid (k + runN (pB spec_RefSeparator_1.f) ((bl s).drop k) = R) ∧ Hid (Drawn0 w w')) (fun v _ => s.size - (intOf v).toNat)
  case atStart => exact ⟨i, rfl, hi, HR, Lib.hid (Drawn0.refl _)⟩
  case round =>
    obtain ⟨k, rfl, hk, HK, HD⟩ := hrel
    clear HR
    by_cases hlt : k < s.size
    · have C := Lib.hid (fun W => isc_RefSeparator_1 (s[k].toNat : Int) W)
      cases hp : pB spec_RefSeparator_1.f (s[k].toNat : Int) with
      | true =>
        have H1 := Lib.hid (show k + 1 + runN (pB spec_RefSeparator_1.f) ((bl s).drop (k + 1)) = R by rw [← HK.out, runN_yes _ s k hlt hp]; omega)
        rw [hp] at C
        clear hp HK
        go_wp2_with (go_at_call 47; (with_reducible refine (C.out _).mono ?_); rintro e w1 ⟨rfl, ⟨n, rfl⟩⟩)
        go_roundw
        case rel => exact ⟨k + 1, by go_num, by omega, H1, Lib.hid (HD.out.step _)⟩
        case measure => simp [intOf]; omega
      | false =>
        have H1 := Lib.hid (show k = R by rw [← HK.out, runN_no _ s k hlt hp]; rfl)
        rw [hp] at C
        clear hp HK
        go_wp2_with (go_at_call 47; (with_reducible refine (C.out _).mono ?_); rintro e w1 ⟨rfl, ⟨n, rfl⟩⟩)
        go_ret
        exact ⟨by rw [← H1.out]; rfl, HD.out.step _⟩
    · have H1 := Lib.hid (show k = R by rw [← HK.out, runN_end _ s k (by omega)]; rfl)
      clear HK
      go_wp2
      go_ret
      exact ⟨by rw [← H1.out]; rfl, HD.out⟩

set_option maxHeartbeats 2000000 in
theorem all_RefSeparator_1 (s : ByteArray) (hs : s.size ≤ 1099511627776) (w : World) :
    Calls Try.prog 28 #[.string s, .func (.func 47) #[] #[]] w fun e w' => e = .returned (.bool (allB (pB spec_RefSeparator_1.f) s)) ∧ Drawn0 w w' := by
  obtain ⟨R, hR⟩ : ∃ R, allB (pB spec_RefSeparator_1.f) s = R := ⟨_, rfl⟩
  rw [hR]
  cases he : (s.toList == ([] : List UInt8)) with
  | true =>
    have H1 := Lib.hid (show R = false by rw [← hR]; unfold allB; rw [he]; rfl)
    have he2 : s.toList = [] := by simpa using he
    clear he hR
    go_enter Try.func28, Try.ntmps28
    go_wp2
    go_ret
    exact ⟨by rw [H1.out]; rfl, Drawn0.refl _⟩
  | false =>
    have he2 : (s.toList = ([] : List UInt8)) = False := by simpa using he
    have he3 : (!s.toList.isEmpty) = true := by cases h : s.toList with | nil => rw [h] at he; simp at he | cons a b => rfl
    have C0 := (fun W => run_RefSeparator_1 s 0 (Nat.zero_le _) hs W)
    rw [List.drop_zero, Nat.zero_add] at C0
    obtain ⟨N, hN⟩ : ∃ N, runN (pB spec_RefSeparator_1.f) (bl s) = N := ⟨_, rfl⟩
    rw [hN] at C0
    have C := Lib.hid (show ∀ W : World, Calls Try.prog 41 #[.string s, .int .i64 0, .func (.func 47) #[] #[]] W fun e w' => e = .returned (.int .i64 (N : Int)) ∧ Drawn0 W w' from C0)
    clear C0
    have H1 := Lib.hid (show R = decide (N = s.size) by rw [← hR]; unfold allB; rw [he, hN]; rfl)
    clear he hR hN
    by_cases hq : N = s.size
    · have H2 := Lib.hid (show R = true by rw [H1.out]; exact decide_eq_true hq)
      have hz2 : ((N : Int) == (s.size : Int)) = true := by rw [beq_iff_eq]; omega
      clear hq H1
      go_enter Try.func28, Try.ntmps28
      go_wp2_with (go_at_call 41; (with_reducible refine (C.out _).mono ?_); rintro e w1 ⟨rfl, ⟨n, rfl⟩⟩)
      go_ret
      exact ⟨by rw [H2.out]; rfl, (Drawn0.refl _).step _⟩
    · have H2 := Lib.hid (show R = false by rw [H1.out]; exact decide_eq_false hq)
      have hz2 : ((N : Int) == (s.size : Int)) = false := by rw [beq_eq_false_iff_ne]; omega
      clear hq H1
      go_enter Try.func28, Try.ntmps28
      go_wp2_with (go_at_call 41; (with_reducible refine (C.out _).mono ?_); rintro e w1 ⟨rfl, ⟨n, rfl⟩⟩)
      go_ret
      exact ⟨by rw [H2.out]; rfl, (Drawn0.refl _).step _⟩

end Go.Proofs.Ytmlcpnehihmhaaa.Gr
namespace Go.Proofs.Ytmlcpnehihmhaaa.Gr

open Go Go.RowKit Go.Lib Go.Proofs Go.Proofs.Ytmlcpnehihmhaaa Go.Proofs.Ytmlcpnehihmhaaa.L Go.Proofs.Ytmlcpnehihmhaaa.Bt Go.Proofs.Ytmlcpnehihmhaaa.PX

open Go.Proofs.YtmlcpnehihmhaaaW.PrintWords Go.Proofs.YtmlcpnehihmhaaaW.PrintLast Go.Proofs.YtmlcpnehihmhaaaW.PrintMore

theorem bt_nat (s : ByteArray) (i : Nat) (h : i < s.size) : bt s (i : Int) = (s[i].toNat : Int) := by
  rw [← bt_at s (i : Int) (by simpa using h)]
  simp only [Int.toNat_natCast]

theorem w1 (i : Nat) (h : i < 2000000000000) : wrap64 ((i : Int) + 1) = ((i + 1 : Nat) : Int) := by rw [w64 (by omega) (by omega)]; omega

theorem byte_iff (a b : UInt8) : ((a.toNat : Int) = (b.toNat : Int)) ↔ a = b := by
  have := byte_eq a b
  rw [Bool.eq_iff_iff, beq_iff_eq, beq_iff_eq] at this
  exact this

def fstI (c : UInt8) (l : List UInt8) (i : Nat) : Int := match fst c l with | none => -1 | some j => ((i + j : Nat) : Int)

theorem first_l (s : ByteArray) (c : UInt8) (hs : s.size ≤ 1099511627776) : ∀ d i k, i + d = s.size → d < k → spec_RefFirst.l0 k s (c.toNat : Int) (i : Int) = some (fstI c ((bl s).drop i) i) := by
  intro d
  induction d with
  | zero =>
    intro i k hi hk
    obtain ⟨k, rfl⟩ : ∃ m, k = m + 1 := ⟨k - 1, by omega⟩
    simp only [spec_RefFirst.l0]
    rw [if_neg (by omega), List.drop_of_length_le (by rw [bl_len]; omega)]
    rfl
  | succ d ih =>
    intro i k hi hk
    obtain ⟨k, rfl⟩ : ∃ m, k = m + 1 := ⟨k - 1, by omega⟩
    have hlt : i < s.size := by omega
    simp only [spec_RefFirst.l0]
    rw [if_pos (by omega), if_pos (by omega), bt_nat s i hlt, drop_bl s i hlt, get_bl s i hlt]
    by_cases e : s[i] = c
    · rw [if_pos (by rw [e]), e]
      unfold fstI
      rw [show fst c (c :: List.drop (i + 1) (bl s)) = some 0 by simp [fst]]
      rfl
    · rw [if_neg (by rw [byte_iff]; exact e), w1 i (by omega), ih (i + 1) k (by omega) (by omega)]
      unfold fstI
      rw [show fst c (s[i] :: List.drop (i + 1) (bl s)) = (fst c (List.drop (i + 1) (bl s))).map (· + 1) by simp [fst, e]]
      cases fst c (List.drop (i + 1) (bl s)) with
      | none => rfl
      | some j => simp only [Option.map_some]; congr 2; omega

theorem first_f (s : ByteArray) (c : UInt8) (hs : s.size ≤ 1099511627776) (k : Nat) (hk : s.size < k) : spec_RefFirst.f k s (c.toNat : Int) = some (fstI c (bl s) 0) := by
  have := first_l s c hs s.size 0 k (by omega) hk
  rw [List.drop_zero] at this
  exact this

theorem fst_lt (c : UInt8) (l : List UInt8) (j : Nat) (h : fst c l = some j) : j < l.length := (fst_some c l j h).1

theorem pieces_l (c : UInt8) : ∀ d (s : ByteArray) (acc : List ByteArray) k, s.size ≤ d → s.size ≤ 1099511627776 → acc.length + s.size ≤ 1099511627776 → 2 * d + 2 < k →
    spec_RefPieces.l0 k s (c.toNat : Int) acc = some (acc ++ (splitL c (bl s)).map ofL) := by
  intro d
  induction d with
  | zero =>
    intro s acc k hd hs ha hk
    obtain ⟨k, rfl⟩ : ∃ m, k = m + 1 := ⟨k - 1, by omega⟩
    simp only [spec_RefPieces.l0]
    have e : bl s = [] := List.length_eq_zero_iff.1 (by rw [bl_len]; omega)
    rw [first_f s c hs k (by omega), e]
    simp only [Option.bind_some]
    rw [show fstI c [] 0 = -1 from rfl, if_pos (by omega), if_pos (by omega)]
    rw [show (splitL c ([] : List UInt8)).map ofL = [s] by rw [← e]; show (splitL c (bl s)).map ofL = [s]; rw [e]; show [ofL []] = [s]; rw [← e, ofL_bl]]
  | succ d ih =>
    intro s acc k hd hs ha hk
    obtain ⟨k, rfl⟩ : ∃ m, k = m + 1 := ⟨k - 1, by omega⟩
    simp only [spec_RefPieces.l0]
    rw [first_f s c hs k (by omega)]
    simp only [Option.bind_some]
    unfold fstI
    cases e : fst c (bl s) with
    | none =>
      simp only
      rw [if_pos (by omega), if_pos (by omega), splitL_fst_none c _ e]
      rfl
    | some j =>
      have hj := fst_lt c _ j e
      rw [bl_len] at hj
      simp only [Nat.zero_add]
      rw [if_neg (by omega), if_pos (by omega), if_pos (by omega), if_pos (by omega), w1 j (by omega), if_pos (by omega), if_pos (by omega), Int.toNat_natCast, Int.toNat_natCast]
      have hz : (s.extract (j + 1) s.size).size = s.size - (j + 1) := by rw [ByteArray.size_extract]; omega
      rw [ih (s.extract (j + 1) s.size) (acc ++ [s.extract 0 j]) k (by omega) (by omega) (by rw [List.length_append, List.length_singleton]; omega) (by omega)]
      rw [splitL_fst_some c _ j e, extract_end, bl_ofL, List.map_cons, extract_head, List.append_assoc]
      rfl

theorem pieces_f (s : ByteArray) (c : UInt8) (hs : s.size ≤ 1099511627776) (k : Nat) (hk : 2 * s.size + 2 < k) : spec_RefPieces.f k s (c.toNat : Int) = some ((splitL c (bl s)).map ofL) := by
  have := pieces_l c s.size s [] k (Nat.le_refl _) hs (by simpa using hs) hk
  rw [List.nil_append] at this
  exact this

/-- An algorithm from a place on. -/
def sgn (c : UInt8) : Bool := c == 43 || c == 46 || c == 45 || c == 95

def alnB (c : UInt8) : Bool := pB spec_refAlnum.f (c.toNat : Int)

def digB (c : UInt8) : Bool := pB spec_refDigit.f (c.toNat : Int)

def algL : Bool → List UInt8 → Bool
  | b, [] => !b
  | b, c :: r => if sgn c then (if b then false else algL true r) else if b && (!alnB c || digB c) then false else if alnB c then algL false r else false

theorem aln_f (c : UInt8) : spec_refAlnum.f (c.toNat : Int) = some (alnB c) := by
  obtain ⟨r, h⟩ := tot_refAlnum (c.toNat : Int)
  unfold alnB pB; rw [h]; rfl

theorem dig_f (c : UInt8) : spec_refDigit.f (c.toNat : Int) = some (digB c) := by
  obtain ⟨r, h⟩ := tot_refDigit (c.toNat : Int)
  unfold digB pB; rw [h]; rfl

theorem alg_l (s : ByteArray) (hs : s.size ≤ 1099511627776) : ∀ d i k b, i + d = s.size → 3 * d + 3 < k → spec_RefAlgorithm.l0 k s b (i : Int) = some (algL b ((bl s).drop i)) := by
  intro d
  induction d with
  | zero =>
    intro i k b hi hk
    obtain ⟨k, rfl⟩ : ∃ m, k = m + 1 := ⟨k - 1, by omega⟩
    simp only [spec_RefAlgorithm.l0]
    rw [if_neg (by omega), List.drop_of_length_le (by rw [bl_len]; omega)]
    rfl
  | succ d ih =>
    intro i k b hi hk
    obtain ⟨k, rfl⟩ : ∃ m, k = m + 3 := ⟨k - 3, by omega⟩
    have hlt : i < s.size := by omega
    have J2 : ∀ q : Bool, spec_RefAlgorithm.j2 (k + 1) s (i : Int) (s[i].toNat : Int) q = some (if q then false else if alnB s[i] then algL false ((bl s).drop (i + 1)) else false) := by
      intro q
      simp only [spec_RefAlgorithm.j2]
      cases q with
      | true => rfl
      | false =>
        rw [if_neg (by simp), aln_f]
        simp only [Option.bind_some]
        cases alnB s[i] with
        | true => rw [if_pos rfl, w1 i (by omega), ih (i + 1) k false (by omega) (by omega)]; rfl
        | false => rfl
    have J1 : ∀ q : Bool, spec_RefAlgorithm.j1 (k + 2) s b (i : Int) (s[i].toNat : Int) q = some (if q then (if b then false else algL true ((bl s).drop (i + 1))) else if b && (!alnB s[i] || digB s[i]) then false else if alnB s[i] then algL false ((bl s).drop (i + 1)) else false) := by
      intro q
      simp only [spec_RefAlgorithm.j1]
      cases q with
      | true =>
        rw [if_pos rfl]
        cases b with
        | true => rfl
        | false => rw [if_neg (by simp), w1 i (by omega), ih (i + 1) (k + 1) true (by omega) (by omega)]; rfl
      | false =>
        rw [if_neg (by simp)]
        cases b with
        | true =>
          rw [if_pos rfl, aln_f]
          simp only [Option.bind_some]
          cases ha : alnB s[i] with
          | true =>
            rw [if_pos rfl, dig_f]
            simp only [Option.bind_some]
            rw [J2, ha]
            cases digB s[i] <;> rfl
          | false => rw [if_neg (by simp), J2, ha]; rfl
        | false => rw [if_neg (by simp), J2]; rfl
    simp only [spec_RefAlgorithm.l0]
    rw [if_pos (by omega), if_pos (by omega), bt_nat s i hlt, drop_bl s i hlt, get_bl s i hlt]
    have hb : ∀ n : UInt8, ((s[i].toNat : Int) = (n.toNat : Int)) ↔ s[i] = n := fun n => byte_iff _ _
    have h43 := hb 43; have h46 := hb 46; have h45 := hb 45; have h95 := hb 95
    have hq : ((s[i].toNat : Int) == 95) = (s[i] == 95) := byte_eq s[i] 95
    rw [show ((43 : UInt8).toNat : Int) = 43 from rfl] at h43
    rw [show ((46 : UInt8).toNat : Int) = 46 from rfl] at h46
    rw [show ((45 : UInt8).toNat : Int) = 45 from rfl] at h45
    rw [J1, J1, hq]
    generalize s[i] = c at *
    rw [algL]
    by_cases e1 : c = 43
    · rw [if_pos (h43.2 e1), show sgn c = true by rw [e1]; rfl]
    · rw [if_neg (fun q => e1 (h43.1 q))]
      by_cases e2 : c = 46
      · rw [if_pos (h46.2 e2), show sgn c = true by rw [e2]; rfl]
      · rw [if_neg (fun q => e2 (h46.1 q))]
        by_cases e3 : c = 45
        · rw [if_pos (h45.2 e3), show sgn c = true by rw [e3]; rfl]
        · rw [if_neg (fun q => e3 (h45.1 q)), show sgn c = (c == 95) by unfold sgn; rw [beq_eq_false_iff_ne.2 e1, beq_eq_false_iff_ne.2 e2, beq_eq_false_iff_ne.2 e3]; rfl]

theorem alg_f (s : ByteArray) (hs : s.size ≤ 1099511627776) (k : Nat) (hk : 3 * s.size + 3 < k) : spec_RefAlgorithm.f k s = some (algL true (bl s)) := by
  have := alg_l s hs s.size 0 k true (by omega) hk
  rw [List.drop_zero] at this
  exact this

theorem strN_size (l : List Int) : (strOfNums l).size = l.length := by unfold strOfNums; simp [ByteArray.size]

theorem small_l (s : ByteArray) (hs : s.size ≤ 1099511627776) : ∀ d i k (x : List Int), x.length = s.size → i + d = s.size → d < k → ∃ r, spec_RefSmall.l0 k s x (s.size : Int) (i : Int) = some r ∧ r.size = s.size := by
  intro d
  induction d with
  | zero =>
    intro i k x hx hi hk
    obtain ⟨k, rfl⟩ : ∃ m, k = m + 1 := ⟨k - 1, by omega⟩
    simp only [spec_RefSmall.l0]
    rw [if_neg (by omega)]
    exact ⟨_, rfl, by rw [strN_size, hx]⟩
  | succ d ih =>
    intro i k x hx hi hk
    obtain ⟨k, rfl⟩ : ∃ m, k = m + 1 := ⟨k - 1, by omega⟩
    simp only [spec_RefSmall.l0]
    rw [if_pos (by omega), if_pos (by omega), if_pos (by omega), if_pos (by omega), w1 i (by omega)]
    simp only [Option.bind_some]
    split
    · split
      · exact ih (i + 1) k _ (by rw [List.length_set, List.length_set, hx]) (by omega) (by omega)
      · exact ih (i + 1) k _ (by rw [List.length_set, hx]) (by omega) (by omega)
    · exact ih (i + 1) k _ (by rw [List.length_set, hx]) (by omega) (by omega)

theorem small_f (s : ByteArray) (hs : s.size ≤ 1099511627776) (k : Nat) (hk : s.size < k) : ∃ r, spec_RefSmall.f k s = some r ∧ r.size = s.size := by
  unfold spec_RefSmall.f
  rw [if_pos (by omega), if_pos (by omega)]
  simp only [Option.bind_some, List.length_replicate, Int.toNat_natCast]
  exact small_l s hs s.size 0 k _ (by rw [List.length_replicate]) (by omega) hk

end Go.Proofs.Ytmlcpnehihmhaaa.Gr
