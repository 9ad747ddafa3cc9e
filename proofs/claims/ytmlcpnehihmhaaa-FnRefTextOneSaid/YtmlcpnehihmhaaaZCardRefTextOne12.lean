/- The row of FnRefTextOne, out of its printed walk and its plain law. For every input that the statement lets in. -/
import Derived.Test.YtmlcpnehihmhaaaZCardRefTextOne10
import Derived.Test.YtmlcpnehihmhaaaZCardRefTextOne11
import Derived.Deep.RegionWith
import Derived.RegionTactic
namespace Go.Proofs.Ytmlcpnehihmhaaa.Base
end Go.Proofs.Ytmlcpnehihmhaaa.Base
namespace Go.Proofs.Ytmlcpnehihmhaaa.Bt
end Go.Proofs.Ytmlcpnehihmhaaa.Bt
namespace Go.Proofs.Ytmlcpnehihmhaaa.Gr
end Go.Proofs.Ytmlcpnehihmhaaa.Gr
namespace Go.Proofs.Ytmlcpnehihmhaaa.L
end Go.Proofs.Ytmlcpnehihmhaaa.L
namespace Go.Proofs.Ytmlcpnehihmhaaa.PX
end Go.Proofs.Ytmlcpnehihmhaaa.PX
namespace Go.Proofs.Ytmlcpnehihmhaaa.Gr

open Go Go.RowKit Go.Lib Go.Proofs Go.Proofs.Ytmlcpnehihmhaaa Go.Proofs.Ytmlcpnehihmhaaa.Base Go.Proofs.Ytmlcpnehihmhaaa.L Go.Proofs.Ytmlcpnehihmhaaa.Bt Go.Proofs.Ytmlcpnehihmhaaa.PX

open Go.Proofs.YtmlcpnehihmhaaaW.PrintWords Go.Proofs.YtmlcpnehihmhaaaW.PrintLast Go.Proofs.YtmlcpnehihmhaaaW.PrintMore

attribute [local go_sem] setCell_drewN alloc_drewN

set_option linter.unusedVariables false

def sepB (s : ByteArray) : Bool := s.toList == [46] || s.toList == [95] || s.toList == [95, 95] || allB (pB spec_RefSeparator_1.f) s

set_option maxHeartbeats 4000000 in
theorem sepW (s : ByteArray) (hs : s.size ≤ 1099511627776) (w : World) : Calls Try.prog 45 #[.string s] w fun e w' => e = .returned (.bool (sepB s)) ∧ Drawn0 w w' := by
  obtain ⟨R, hR⟩ : ∃ R, sepB s = R := ⟨_, rfl⟩
  rw [hR]
  unfold sepB at hR
  by_cases h1 : s.toList = [46]
  · have H := Lib.hid (show R = true by rw [← hR, h1]; rfl)
    clear hR
    go_enter Try.func45, Try.ntmps45
    go_wp2
    go_ret
    exact ⟨by rw [H.out]; rfl, Drawn0.refl _⟩
  by_cases h2 : s.toList = [95]
  · have H := Lib.hid (show R = true by rw [← hR, h2]; rfl)
    have g1 : (s.toList = [46]) = False := by rw [h2]; simp
    clear hR h1
    go_enter Try.func45, Try.ntmps45
    go_wp2
    go_ret
    exact ⟨by rw [H.out]; rfl, Drawn0.refl _⟩
  by_cases h3 : s.toList = [95, 95]
  · have H := Lib.hid (show R = true by rw [← hR, h3]; rfl)
    clear hR h1 h2
    go_enter Try.func45, Try.ntmps45
    go_wp2
    go_ret
    exact ⟨by rw [H.out]; rfl, Drawn0.refl _⟩
  have C := Lib.hid (fun W => all_RefSeparator_1 s hs W)
  have g1 : (s.toList = [46]) = False := eq_false h1
  have g2 : (s.toList = [95]) = False := eq_false h2
  have g3 : (s.toList = [95, 95]) = False := eq_false h3
  obtain ⟨N, hN⟩ : ∃ N, allB (pB spec_RefSeparator_1.f) s = N := ⟨_, rfl⟩
  rw [hN] at C
  have H := Lib.hid (show R = (s.toList == [46] || s.toList == [95] || s.toList == [95, 95] || N) by rw [← hR, hN])
  clear hR h1 h2 h3 hN
  go_enter Try.func45, Try.ntmps45
  go_wp2_with (go_at_call 28; (with_reducible refine (C.out _).mono ?_); rintro e w1 ⟨rfl, ⟨n, rfl⟩⟩)
  go_ret
  exact ⟨by rw [H.out]; rfl, (Drawn0.refl _).step _⟩

/-- The words of a component from a place on. -/
def compF (s : ByteArray) : Nat → Nat → Bool
  | 0, _ => true
  | n + 1, i => if i < s.size then
      let k := i + runN (pB spec_RefComponent_1.f) ((bl s).drop i)
      let e := k + runN (pB spec_refLower.f) ((bl s).drop k)
      sepB (s.extract i k) && !(e == k) && compF s n e
    else true

def compB (s : ByteArray) : Bool := !(runN (pB spec_refLower.f) (bl s) == 0) && compF s s.size (runN (pB spec_refLower.f) (bl s))

theorem runN_bd (P : Int → Bool) (s : ByteArray) (i : Nat) (h : i ≤ s.size) : i + runN P ((bl s).drop i) ≤ s.size := by
  have := runN_le P ((bl s).drop i)
  rw [List.length_drop, bl_len] at this
  omega

theorem run0_refLower (s : ByteArray) (hs : s.size ≤ 1099511627776) (w : World) :
    Calls Try.prog 41 #[.string s, .int .i64 0, .func (.func 38) #[] #[]] w fun e w' => e = .returned (.int .i64 (runN (pB spec_refLower.f) (bl s) : Int)) ∧ Drawn0 w w' := by
  have C0 := run_refLower s 0 (Nat.zero_le _) hs w
  rw [List.drop_zero, Nat.zero_add] at C0
  exact C0

/-- Behind a run of small letters stands none, or the end. -/
theorem run_stops (s : ByteArray) (i : Nat) (hi : i ≤ s.size) (hlt : i + runN (pB spec_refLower.f) ((bl s).drop i) < s.size) :
    pB spec_refLower.f (s[i + runN (pB spec_refLower.f) ((bl s).drop i)].toNat : Int) = false := by
  generalize hk : runN (pB spec_refLower.f) ((bl s).drop i) = k at *
  induction k generalizing i with
  | zero =>
    cases h : pB spec_refLower.f (s[i + 0].toNat : Int) with
    | false => rfl
    | true => exact absurd hk (by have := runN_yes _ s i (by omega) h; omega)
  | succ k ih =>
    have hlt2 : i < s.size := by omega
    cases h : pB spec_refLower.f (s[i].toNat : Int) with
    | false => exact absurd hk (by have := runN_no _ s i (by omega) h; omega)
    | true =>
      have h2 := runN_yes _ s i hlt2 h
      have := ih (i + 1) (by omega) (by omega) (by omega)
      simpa [show i + 1 + k = i + (k + 1) by omega] using this

set_option maxHeartbeats 4000000 in
theorem compW (s : ByteArray) (hs : s.size ≤ 1099511627776) (w : World) : Calls Try.prog 36 #[.string s] w fun e w' => e = .returned (.bool (compB s)) ∧ Drawn0 w w' := by
  obtain ⟨R, hR⟩ : ∃ R, compB s = R := ⟨_, rfl⟩
  rw [hR]
  unfold compB at hR
  have C1 := Lib.hid (fun W => run0_refLower s hs W)
  have hb := runN_bd (pB spec_refLower.f) s 0 (Nat.zero_le _)
  have hst := run_stops s 0 (Nat.zero_le _)
  rw [List.drop_zero, Nat.zero_add] at hb
  generalize runN (pB spec_refLower.f) (bl s) = N at *
  by_cases h0 : N = 0
  · subst h0
    have H := Lib.hid (show R = false by rw [← hR]; rfl)
    have C2 := Lib.hid (show ∀ W : World, Calls Try.prog 41 #[.string s, .int .i64 0, .func (.func 38) #[] #[]] W fun e w' => e = .returned (.int .i64 0) ∧ Drawn0 W w' from C1.out)
    clear hR C1 hb hst
    go_enter Try.func36, Try.ntmps36
    go_wp2_with (go_at_call 41; (with_reducible refine (C2.out _).mono ?_); rintro e w1 ⟨rfl, ⟨n, rfl⟩⟩)
    go_ret
    exact ⟨by rw [H.out]; rfl, (Drawn0.refl _).step _⟩
  · have H := Lib.hid (show compF s s.size N = R by rw [← hR, beq_eq_false_iff_ne.2 h0]; rfl)
    have hz : ((N : Int) == 0) = false := beq_eq_false_iff_ne.2 (by omega)
    clear hR h0 hst
    go_enter Try.func36, Try.ntmps36
    go_wp2_with (go_at_call 41; (with_reducible refine (C1.out _).mono ?_); rintro e w1 ⟨rfl, ⟨n, rfl⟩⟩)
    clear hz C1
    have HB := Lib.hid hb
    clear hb
    go_loopw [3] (fun v w' => ∃ k : Nat, v = .int .i64 (k : Int) ∧ k ≤ s.size ∧ Hid (∃ n, s.size - k ≤ n ∧ compF s n k = R) ∧ Hid (Drawn0 w w')) (fun v _ => s.size - (intOf v).toNat)
    case atStart => exact ⟨N, rfl, HB.out, Lib.hid ⟨s.size, by omega, H.out⟩, Lib.hid ((Drawn0.refl _).step _)⟩
    case round =>
      obtain ⟨i, rfl, hi, HK, HD⟩ := hrel
      clear H HB
      by_cases hlt : i < s.size
      · obtain ⟨m, hm, hc⟩ := HK.out
        obtain ⟨m0, rfl⟩ : ∃ n, m = n + 1 := ⟨m - 1, by omega⟩
        unfold compF at hc
        rw [if_pos hlt] at hc
        have hkb := runN_bd (pB spec_RefComponent_1.f) s i hi
        have D1 := Lib.hid (fun W => run_RefComponent_1 s i hi hs W)
        dsimp only at hc
        obtain ⟨k, hk⟩ : ∃ k, i + runN (pB spec_RefComponent_1.f) ((bl s).drop i) = k := ⟨_, rfl⟩
        rw [hk] at hc hkb D1
        have heb := runN_bd (pB spec_refLower.f) s k hkb
        have D2 := Lib.hid (fun W => run_refLower s k hkb hs W)
        obtain ⟨e, he⟩ : ∃ e, k + runN (pB spec_refLower.f) ((bl s).drop k) = e := ⟨_, rfl⟩
        rw [he] at hc heb D2
        have hik : i ≤ k := by omega
        have hke : k ≤ e := by omega
        have D3 := Lib.hid (fun W => sepW (s.extract i k) (by rw [ByteArray.size_extract]; omega) W)
        clear hk he HK
        cases hsep : sepB (s.extract i k) with
        | false =>
          have H := Lib.hid (show R = false by rw [← hc, hsep]; rfl)
          rw [hsep] at D3
          clear hc hsep hm
          go_wp2_with (first
            | (go_at_call 41; (with_reducible refine (D1.out _).mono ?_); rintro e w1 ⟨rfl, ⟨n, rfl⟩⟩)
            | (go_at_call 41; (with_reducible refine (D2.out _).mono ?_); rintro e w1 ⟨rfl, ⟨n, rfl⟩⟩)
            | (go_at_call 45; (with_reducible refine (D3.out _).mono ?_); rintro e w1 ⟨rfl, ⟨n, rfl⟩⟩))
          go_ret
          exact ⟨by rw [H.out]; rfl, HD.out.step _⟩
        | true =>
          rw [hsep] at D3 hc
          by_cases hek : e = k
          · have H := Lib.hid (show R = false by rw [← hc, hek]; simp)
            subst hek
            clear hc hsep hm
            go_wp2_with (first
              | (go_at_call 41; (with_reducible refine (D1.out _).mono ?_); rintro e w1 ⟨rfl, ⟨n, rfl⟩⟩)
              | (go_at_call 41; (with_reducible refine (D2.out _).mono ?_); rintro e w1 ⟨rfl, ⟨n, rfl⟩⟩)
              | (go_at_call 45; (with_reducible refine (D3.out _).mono ?_); rintro e w1 ⟨rfl, ⟨n, rfl⟩⟩))
            go_ret
            exact ⟨by rw [H.out]; rfl, HD.out.step _⟩
          · have H := Lib.hid (show compF s m0 e = R by rw [← hc, beq_eq_false_iff_ne.2 hek]; rfl)
            have hz : ((e : Int) == (k : Int)) = false := beq_eq_false_iff_ne.2 (by omega)
            have HM := Lib.hid (show s.size - e ≤ m0 by omega)
            have hlt2 : i < e := by omega
            clear hc hsep hm hek
            go_wp2_with (first
              | (go_at_call 41; (with_reducible refine (D1.out _).mono ?_); rintro e w1 ⟨rfl, ⟨n, rfl⟩⟩)
              | (go_at_call 41; (with_reducible refine (D2.out _).mono ?_); rintro e w1 ⟨rfl, ⟨n, rfl⟩⟩)
              | (go_at_call 45; (with_reducible refine (D3.out _).mono ?_); rintro e w1 ⟨rfl, ⟨n, rfl⟩⟩))
            go_roundw
            case rel => exact ⟨e, by go_num, heb, Lib.hid ⟨m0, HM.out, H.out⟩, Lib.hid (HD.out.step _)⟩
            case measure => simp [intOf]; omega
      · have H := Lib.hid (show R = true by
          obtain ⟨m, hm, hc⟩ := HK.out
          rw [← hc]
          cases m with
          | zero => rfl
          | succ m => unfold compF; rw [if_neg hlt])
        clear HK
        go_wp2
        go_ret
        exact ⟨by rw [H.out]; rfl, HD.out⟩

/-- A label of a domain name. -/
def labB (s : ByteArray) : Bool := allB (pB spec_RefLabel_1.f) s && (bt s 0 != 45) && (bt s ((s.size : Int) - 1) != 45)

theorem all_pos {P : Int → Bool} {s : ByteArray} (h : allB P s = true) : 0 < s.size := by
  unfold allB at h
  rw [Bool.and_eq_true] at h
  by_cases h0 : s.size = 0
  · have : s.toList = [] := by rw [ByteArray.toList_eq]; exact List.length_eq_zero_iff.1 (by rw [← h0]; rfl)
    rw [this] at h; simp at h
  · omega

set_option maxHeartbeats 4000000 in
theorem labW (s : ByteArray) (hs : s.size ≤ 1099511627776) (w : World) : Calls Try.prog 43 #[.string s] w fun e w' => e = .returned (.bool (labB s)) ∧ Drawn0 w w' := by
  obtain ⟨R, hR⟩ : ∃ R, labB s = R := ⟨_, rfl⟩
  rw [hR]
  unfold labB at hR
  have C := Lib.hid (fun W => all_RefLabel_1 s hs W)
  cases h : allB (pB spec_RefLabel_1.f) s with
  | false =>
    rw [h] at C
    have H := Lib.hid (show R = false by rw [← hR, h]; rfl)
    clear hR h
    go_enter Try.func43, Try.ntmps43
    go_wp2_with (go_at_call 28; (with_reducible refine (C.out _).mono ?_); rintro e w1 ⟨rfl, ⟨nd, rfl⟩⟩)
    go_ret
    exact ⟨by rw [H.out]; rfl, (Drawn0.refl _).step _⟩
  | true =>
    have hp := all_pos h
    rw [h] at C hR
    have hx := bt_nat s 0 hp
    have hy := bt_nat s (s.size - 1) (by omega)
    have hz : ((s.size - 1 : Nat) : Int) = (s.size : Int) - 1 := by omega
    rw [hz] at hy
    have hx' : bt s 0 = (s[0].toNat : Int) := hx
    rw [hx', hy] at hR
    clear hx hx' hy hz
    by_cases h0 : (s[0].toNat : Int) = 45
    · have H := Lib.hid (show R = false by rw [← hR, h0]; rfl)
      have hp1 : 0 < s.size := hp
      clear hR h
      go_enter Try.func43, Try.ntmps43
      go_wp2_with (go_at_call 28; (with_reducible refine (C.out _).mono ?_); rintro e w1 ⟨rfl, ⟨nd, rfl⟩⟩)
      go_ret
      exact ⟨by rw [H.out]; rfl, (Drawn0.refl _).step _⟩
    · have e1 : ((s[0].toNat : Int) != 45) = true := bne_iff_ne.2 h0
      have H := Lib.hid (show R = (((s[s.size - 1]'(by omega)).toNat : Int) != 45) by rw [← hR, e1]; rfl)
      have h0f : ((s[0].toNat : Int) = 45) = False := eq_false h0
      have p2 : 1 ≤ (s.size : Int) := by omega
      have q2 : (s.size : Int) - 1 < (s.size : Int) := by omega
      clear hR h h0
      go_enter Try.func43, Try.ntmps43
      go_wp2_with (go_at_call 28; (with_reducible refine (C.out _).mono ?_); rintro e w1 ⟨rfl, ⟨nd, rfl⟩⟩)
      go_ret
      exact ⟨by rw [H.out]; rfl, (Drawn0.refl _).step _⟩

set_option maxHeartbeats 4000000 in
theorem each_comp (L : List ByteArray) (A : Option Addr) (c base : Nat) (hx : ∀ x ∈ L, x.size ≤ 1099511627776) (hl : L.length ≤ 1099511627777) (w : World) (h : Kd.R Kd.string 9 w base (fun _ => True) (.slice A L.length c) L) :
    Calls Try.prog 34 #[.slice A L.length c, .func (.func 36) #[] #[]] w fun e w' => e = .returned (.bool (L.all compB)) ∧ Below w.heap.size w w' := by
  obtain ⟨V, hV⟩ : ∃ V, L.all compB = V := ⟨_, rfl⟩
  have HV0 := Lib.hid hV
  rw [hV]
  have HO := Aside0.mk h
  have HX := Lib.hid hx
  have HB := Aside0.mk (Below.refl w.heap.size w)
  clear hV h hx
  go_enter Try.func34, Try.ntmps34
  go_wp2_with fail
  go_loopw [9] (fun v w' => ∃ i : Nat, v = .int .i64 (i : Int) ∧ i ≤ L.length ∧ Aside0 ((L.drop i).all compB = V) ∧ Aside0 (Kd.R Kd.string 9 w' base (fun _ => True) (.slice A L.length c) L) ∧ Aside0 (Below w.heap.size w w')) (fun v _ => L.length - (intOf v).toNat)
  case atStart => exact ⟨0, rfl, Nat.zero_le _, ⟨HV0.out⟩, HO, HB⟩
  case round =>
    obtain ⟨i, rfl, hi, HA, HO2, HB2⟩ := hrel
    clear HO HB HV0
    by_cases hlt : i < L.length
    · have hst := all_step compB L i hlt
      have b0 : decide ((i : Int) < (L.length : Int)) = true := decide_eq_true (by omega)
      have b0' : decide (i < L.length) = true := decide_eq_true hlt
      have p1 : 0 ≤ (i : Int) := by omega
      have q1 : (i : Int) < (L.length : Int) := by omega
      have hsz := HX.out L[i] (List.getElem_mem hlt)
      obtain ⟨ad, e1, hc⟩ := Kd.at_string (Kd.R_reads' HO2.out).2.2 (i : Int) p1 q1
      cases e1
      rw [rd_get L i hlt, Int.toNat_natCast] at hc
      generalize L[i] = p at *
      have CO := Lib.hid (fun W => compW p hsz W)
      cases ho : compB p with
      | false =>
        rw [ho] at CO
        have HV1 : Hid (V = false) := Lib.hid (by rw [← HA.out, hst, ho]; rfl)
        clear hst ho hsz
        go_wp2_with (go_at_call 36; (with_reducible refine (CO.out _).mono ?_); rintro e w2 ⟨rfl, ⟨nd, rfl⟩⟩)
        go_ret
        exact ⟨by rw [HV1.out]; rfl, by first | exact HB2.out | exact dN HB2.out _⟩
      | true =>
        rw [ho] at CO
        have HA2 : Aside0 ((L.drop (i + 1)).all compB = V) := ⟨by rw [← HA.out, hst, ho]; rfl⟩
        clear hst ho hsz HA
        go_wp2_with (go_at_call 36; (with_reducible refine (CO.out _).mono ?_); rintro e w2 ⟨rfl, ⟨nd, rfl⟩⟩)
        go_roundw
        case rel => exact ⟨i + 1, by go_num, by omega, HA2, ⟨Kd.R_drewN HO2.out _⟩, ⟨dN HB2.out _⟩⟩
        case measure => simp [intOf]; omega
    · have b0 : decide ((i : Int) < (L.length : Int)) = false := decide_eq_false (by omega)
      have b0' : decide (i < L.length) = false := decide_eq_false hlt
      have HV1 : Hid (V = true) := Lib.hid (by rw [← HA.out, List.drop_of_length_le (by omega)]; rfl)
      go_wp2
      go_ret
      exact ⟨by rw [HV1.out]; rfl, HB2.out⟩

set_option maxHeartbeats 4000000 in
theorem each_lab (L : List ByteArray) (A : Option Addr) (c base : Nat) (hx : ∀ x ∈ L, x.size ≤ 1099511627776) (hl : L.length ≤ 1099511627777) (w : World) (h : Kd.R Kd.string 9 w base (fun _ => True) (.slice A L.length c) L) :
    Calls Try.prog 34 #[.slice A L.length c, .func (.func 43) #[] #[]] w fun e w' => e = .returned (.bool (L.all labB)) ∧ Below w.heap.size w w' := by
  obtain ⟨V, hV⟩ : ∃ V, L.all labB = V := ⟨_, rfl⟩
  have HV0 := Lib.hid hV
  rw [hV]
  have HO := Aside0.mk h
  have HX := Lib.hid hx
  have HB := Aside0.mk (Below.refl w.heap.size w)
  clear hV h hx
  go_enter Try.func34, Try.ntmps34
  go_wp2_with fail
  go_loopw [9] (fun v w' => ∃ i : Nat, v = .int .i64 (i : Int) ∧ i ≤ L.length ∧ Aside0 ((L.drop i).all labB = V) ∧ Aside0 (Kd.R Kd.string 9 w' base (fun _ => True) (.slice A L.length c) L) ∧ Aside0 (Below w.heap.size w w')) (fun v _ => L.length - (intOf v).toNat)
  case atStart => exact ⟨0, rfl, Nat.zero_le _, ⟨HV0.out⟩, HO, HB⟩
  case round =>
    obtain ⟨i, rfl, hi, HA, HO2, HB2⟩ := hrel
    clear HO HB HV0
    by_cases hlt : i < L.length
    · have hst := all_step labB L i hlt
      have b0 : decide ((i : Int) < (L.length : Int)) = true := decide_eq_true (by omega)
      have b0' : decide (i < L.length) = true := decide_eq_true hlt
      have p1 : 0 ≤ (i : Int) := by omega
      have q1 : (i : Int) < (L.length : Int) := by omega
      have hsz := HX.out L[i] (List.getElem_mem hlt)
      obtain ⟨ad, e1, hc⟩ := Kd.at_string (Kd.R_reads' HO2.out).2.2 (i : Int) p1 q1
      cases e1
      rw [rd_get L i hlt, Int.toNat_natCast] at hc
      generalize L[i] = p at *
      have CO := Lib.hid (fun W => labW p hsz W)
      cases ho : labB p with
      | false =>
        rw [ho] at CO
        have HV1 : Hid (V = false) := Lib.hid (by rw [← HA.out, hst, ho]; rfl)
        clear hst ho hsz
        go_wp2_with (go_at_call 43; (with_reducible refine (CO.out _).mono ?_); rintro e w2 ⟨rfl, ⟨nd, rfl⟩⟩)
        go_ret
        exact ⟨by rw [HV1.out]; rfl, by first | exact HB2.out | exact dN HB2.out _⟩
      | true =>
        rw [ho] at CO
        have HA2 : Aside0 ((L.drop (i + 1)).all labB = V) := ⟨by rw [← HA.out, hst, ho]; rfl⟩
        clear hst ho hsz HA
        go_wp2_with (go_at_call 43; (with_reducible refine (CO.out _).mono ?_); rintro e w2 ⟨rfl, ⟨nd, rfl⟩⟩)
        go_roundw
        case rel => exact ⟨i + 1, by go_num, by omega, HA2, ⟨Kd.R_drewN HO2.out _⟩, ⟨dN HB2.out _⟩⟩
        case measure => simp [intOf]; omega
    · have b0 : decide ((i : Int) < (L.length : Int)) = false := decide_eq_false (by omega)
      have b0' : decide (i < L.length) = false := decide_eq_false hlt
      have HV1 : Hid (V = true) := Lib.hid (by rw [← HA.out, List.drop_of_length_le (by omega)]; rfl)
      go_wp2
      go_ret
      exact ⟨by rw [HV1.out]; rfl, HB2.out⟩

end Go.Proofs.Ytmlcpnehihmhaaa.Gr
namespace Go.Proofs.Ytmlcpnehihmhaaa.Gr

open Go Go.RowKit Go.Lib Go.Proofs Go.Proofs.Ytmlcpnehihmhaaa Go.Proofs.Ytmlcpnehihmhaaa.Base Go.Proofs.Ytmlcpnehihmhaaa.L Go.Proofs.Ytmlcpnehihmhaaa.Bt Go.Proofs.Ytmlcpnehihmhaaa.PX

open Go.Proofs.YtmlcpnehihmhaaaW.PrintWords Go.Proofs.YtmlcpnehihmhaaaW.PrintLast Go.Proofs.YtmlcpnehihmhaaaW.PrintMore

attribute [local go_sem] setCell_drewN alloc_drewN

set_option linter.unusedVariables false

theorem parts_sz (c : UInt8) (s : ByteArray) (hs : s.size ≤ 1099511627776) : ∀ x ∈ (splitL c (bl s)).map ofL, x.size ≤ 1099511627776 := by
  intro x hx
  obtain ⟨p, hp, rfl⟩ := List.mem_map.1 hx
  have := parts_le c (bl s) p hp
  rw [bl_len] at this
  rw [size_ofL]; omega

theorem parts_ln (c : UInt8) (s : ByteArray) (hs : s.size ≤ 1099511627776) : ((splitL c (bl s)).map ofL).length ≤ 1099511627777 := by
  have := splitL_len c (bl s)
  rw [bl_len] at this
  rw [List.length_map]; omega

def pathB (s : ByteArray) : Bool := ((splitL 47 (bl s)).map ofL).all compB

set_option maxHeartbeats 4000000 in
theorem pathW (s : ByteArray) (hs : s.size ≤ 1099511627776) (w : World) : Calls Try.prog 22 #[.string s] w fun e w' => e = .returned (.bool (pathB s)) ∧ Below w.heap.size w w' := by
  obtain ⟨R, hR⟩ : ∃ R, pathB s = R := ⟨_, rfl⟩
  rw [hR]
  unfold pathB at hR
  have C := Lib.hid (fun W => spec_RefPieces.calls (2 * s.size + 3) s 47 ((splitL 47 (bl s)).map ofL) W (pieces_f s 47 hs _ (by omega)))
  have D := Lib.hid (fun A c base W h => each_comp ((splitL 47 (bl s)).map ofL) A c base (parts_sz 47 s hs) (parts_ln 47 s hs) W h)
  rw [hR] at D
  clear hR
  generalize (splitL 47 (bl s)).map ofL = L at *
  go_enter Try.func22, Try.ntmps22
  go_wp2_with fail
  refine (C.out _).mono ?_
  rintro e w1 ⟨v1, rfl, ho, hb⟩
  obtain ⟨A1, c1, e1⟩ := Kd.R_slice ho
  subst e1
  have HO := Lib.hid ho
  have HB := Lib.hid hb
  clear ho hb
  go_wp2_with (go_at_call 34; (with_reducible refine (D.out _ _ _ _ HO.out).mono ?_); rintro e w2 ⟨rfl, hb2⟩; have HB2 := Lib.hid (HB.out.trans (hb2.mono HB.out.size)); clear hb2)
  go_ret
  exact ⟨rfl, HB2.out⟩

/-- An address in brackets. -/
def ipB (s : ByteArray) : Bool := decide (2 < s.size) && (bt s 0 == 91) && (bt s ((s.size - 1 : Nat) : Int) == 93)

def hostB (s : ByteArray) : Bool := if ipB s = true then allB (pB spec_RefHost_1.f) (s.extract 1 (s.size - 1)) else ((splitL 46 (bl s)).map ofL).all labB

set_option maxHeartbeats 4000000 in
theorem hostW (s : ByteArray) (hs : s.size ≤ 1099511627776) (w : World) : Calls Try.prog 32 #[.string s] w fun e w' => e = .returned (.bool (hostB s)) ∧ Below w.heap.size w w' := by
  obtain ⟨R, hR⟩ : ∃ R, hostB s = R := ⟨_, rfl⟩
  rw [hR]
  unfold hostB at hR
  cases hi : ipB s with
  | true =>
    rw [if_pos hi] at hR
    have C := Lib.hid (fun W => all_RefHost_1 (s.extract 1 (s.size - 1)) (by rw [ByteArray.size_extract]; omega) W)
    rw [hR] at C
    unfold ipB at hi
    rw [Bool.and_eq_true, Bool.and_eq_true, decide_eq_true_eq, beq_iff_eq, beq_iff_eq] at hi
    obtain ⟨⟨h2, h0⟩, h1⟩ := hi
    have h0' : (s[0].toNat : Int) = 91 := (bt_nat s 0 (by omega)).symm.trans h0
    have h1' : (s[s.size - 1].toNat : Int) = 93 := (bt_nat s (s.size - 1) (by omega)).symm.trans h1
    have p0 : decide ((2 : Int) < (s.size : Int)) = true := decide_eq_true (by omega)
    have p1 : 1 ≤ (s.size : Int) := by omega
    have p2 : 0 < s.size := by omega
    have p3 : (s.size : Int) - 1 < (s.size : Int) := by omega
    have p4 : 1 ≤ (s.size : Int) - 1 := by omega
    have p5 : (s.size : Int) - 1 ≤ (s.size : Int) := by omega
    clear hR h0 h1
    go_enter Try.func32, Try.ntmps32
    go_wp2_with (go_at_call 28; (with_reducible refine (C.out _).mono ?_); rintro e w1 ⟨rfl, ⟨nd, rfl⟩⟩)
    go_ret
    exact ⟨rfl, dN (Below.refl _ _) _⟩
  | false =>
    rw [if_neg (by rw [hi]; exact Bool.false_ne_true)] at hR
    have C := Lib.hid (fun W => spec_RefPieces.calls (2 * s.size + 3) s 46 ((splitL 46 (bl s)).map ofL) W (pieces_f s 46 hs _ (by omega)))
    have D := Lib.hid (fun A c base W h => each_lab ((splitL 46 (bl s)).map ofL) A c base (parts_sz 46 s hs) (parts_ln 46 s hs) W h)
    rw [hR] at D
    clear hR
    generalize (splitL 46 (bl s)).map ofL = L at *
    unfold ipB at hi
    by_cases h2 : 2 < s.size
    · have p0 : decide ((2 : Int) < (s.size : Int)) = true := decide_eq_true (by omega)
      have p1 : 1 ≤ (s.size : Int) := by omega
      have p2 : 0 < s.size := by omega
      have p3 : (s.size : Int) - 1 < (s.size : Int) := by omega
      rw [decide_eq_true h2, bt_nat s (s.size - 1) (by omega), show bt s 0 = (s[0].toNat : Int) from bt_nat s 0 (by omega)] at hi
      by_cases h0 : (s[0].toNat : Int) = 91
      · have h1 : ((s[s.size - 1].toNat : Int) = 93) = False := by
          rw [h0] at hi
          simpa using hi
        have h1' : ((s[s.size - 1].toNat : Int) == 93) = false := beq_eq_false_iff_ne.2 (of_eq_false h1)
        clear hi
        go_enter Try.func32, Try.ntmps32
        go_wp2_with fail
        refine (C.out _).mono ?_
        rintro e w1 ⟨v1, rfl, ho, hb⟩
        obtain ⟨A1, c1, e1⟩ := Kd.R_slice ho
        subst e1
        have HO := Lib.hid ho
        have HB := Lib.hid hb
        clear ho hb
        go_wp2_with (go_at_call 34; (with_reducible refine (D.out _ _ _ _ HO.out).mono ?_); rintro e w2 ⟨rfl, hb2⟩; have HB2 := Lib.hid (HB.out.trans (hb2.mono HB.out.size)); clear hb2)
        go_ret
        exact ⟨rfl, HB2.out⟩
      · have h1 : ((s[0].toNat : Int) = 91) = False := eq_false h0
        have h1' : ((s[0].toNat : Int) == 91) = false := beq_eq_false_iff_ne.2 h0
        clear hi h0
        go_enter Try.func32, Try.ntmps32
        go_wp2_with fail
        refine (C.out _).mono ?_
        rintro e w1 ⟨v1, rfl, ho, hb⟩
        obtain ⟨A1, c1, e1⟩ := Kd.R_slice ho
        subst e1
        have HO := Lib.hid ho
        have HB := Lib.hid hb
        clear ho hb
        go_wp2_with (go_at_call 34; (with_reducible refine (D.out _ _ _ _ HO.out).mono ?_); rintro e w2 ⟨rfl, hb2⟩; have HB2 := Lib.hid (HB.out.trans (hb2.mono HB.out.size)); clear hb2)
        go_ret
        exact ⟨rfl, HB2.out⟩
    · have p0 : decide ((2 : Int) < (s.size : Int)) = false := decide_eq_false (by omega)
      have p0' : decide (2 < s.size) = false := decide_eq_false h2
      clear hi h2
      go_enter Try.func32, Try.ntmps32
      go_wp2_with fail
      refine (C.out _).mono ?_
      rintro e w1 ⟨v1, rfl, ho, hb⟩
      obtain ⟨A1, c1, e1⟩ := Kd.R_slice ho
      subst e1
      have HO := Lib.hid ho
      have HB := Lib.hid hb
      clear ho hb
      go_wp2_with (go_at_call 34; (with_reducible refine (D.out _ _ _ _ HO.out).mono ?_); rintro e w2 ⟨rfl, hb2⟩; have HB2 := Lib.hid (HB.out.trans (hb2.mono HB.out.size)); clear hb2)
      go_ret
      exact ⟨rfl, HB2.out⟩

/-- A host and a port from a place of the colon on. -/
def domF (s : ByteArray) : Nat → Nat → Bool
  | 0, _ => false
  | n + 1, i => if i < s.size then ((bt s (i : Int) == 58) && hostB (s.extract 0 i) && allB (pB spec_refDigit.f) (s.extract (i + 1) s.size)) || domF s n (i + 1) else false

def domB (s : ByteArray) : Bool := hostB s || domF s s.size 0

set_option maxHeartbeats 4000000 in
theorem domW (s : ByteArray) (hs : s.size ≤ 1099511627776) (w : World) : Calls Try.prog 21 #[.string s] w fun e w' => e = .returned (.bool (domB s)) ∧ Below w.heap.size w w' := by
  obtain ⟨R, hR⟩ : ∃ R, domB s = R := ⟨_, rfl⟩
  rw [hR]
  unfold domB at hR
  have C := Lib.hid (fun W => hostW s hs W)
  cases hh : hostB s with
  | true =>
    rw [hh] at C
    have H := Lib.hid (show R = true by rw [← hR, hh]; rfl)
    clear hR hh
    go_enter Try.func21, Try.ntmps21
    go_wp2_with (go_at_call 32; (with_reducible refine (C.out _).mono ?_); rintro e w1 ⟨rfl, hb⟩; have HB := Lib.hid hb; clear hb)
    go_ret
    exact ⟨by rw [H.out]; rfl, HB.out⟩
  | false =>
    rw [hh] at C hR
    rw [Bool.false_or] at hR
    have H := Lib.hid hR
    clear hR hh
    go_enter Try.func21, Try.ntmps21
    go_wp2_with (go_at_call 32; (with_reducible refine (C.out _).mono ?_); rintro e w1 ⟨rfl, hb⟩; have HB := Lib.hid hb; clear hb)
    go_loopw [3] (fun v w' => ∃ k : Nat, v = .int .i64 (k : Int) ∧ k ≤ s.size ∧ Hid (domF s (s.size - k) k = R) ∧ Hid (Below w.heap.size w w')) (fun v _ => s.size - (intOf v).toNat)
    case atStart => exact ⟨0, rfl, Nat.zero_le _, H, HB⟩
    case round =>
      obtain ⟨i, rfl, hi, HK, HB1⟩ := hrel
      clear H HB
      by_cases hlt : i < s.size
      · have hK := HK.out
        obtain ⟨m, hm⟩ : ∃ m, s.size - i = m + 1 := ⟨s.size - i - 1, by omega⟩
        rw [hm, domF, if_pos hlt, bt_nat s i hlt] at hK
        have hm2 : m = s.size - (i + 1) := by omega
        rw [hm2] at hK
        clear hm hm2 HK
        have D1 := Lib.hid (fun W => hostW (s.extract 0 i) (by rw [ByteArray.size_extract]; omega) W)
        have D2 := Lib.hid (fun W => all_refDigit (s.extract (i + 1) s.size) (by rw [ByteArray.size_extract]; omega) W)
        by_cases h0 : (s[i].toNat : Int) = 58
        · rw [h0] at hK
          cases h1 : hostB (s.extract 0 i) with
          | true =>
            cases h2 : allB (pB spec_refDigit.f) (s.extract (i + 1) s.size) with
            | true =>
              have H := Lib.hid (show R = true by rw [← hK, h1, h2]; rfl)
              rw [h1] at D1; rw [h2] at D2
              clear hK h1 h2
              go_wp2_with (first
                | (go_at_call 32; (with_reducible refine (D1.out _).mono ?_); rintro e w1 ⟨rfl, hb⟩; have HB2 := Lib.hid (HB1.out.trans (hb.mono HB1.out.size)); clear hb)
                | (go_at_call 28; (with_reducible refine (D2.out _).mono ?_); rintro e w1 ⟨rfl, ⟨nd, rfl⟩⟩))
              go_ret
              exact ⟨by rw [H.out]; rfl, dN HB2.out _⟩
            | false =>
              have H := Lib.hid (show domF s (s.size - (i + 1)) (i + 1) = R by rw [← hK, h1, h2]; rfl)
              rw [h1] at D1; rw [h2] at D2
              clear hK h1 h2
              go_wp2_with (first
                | (go_at_call 32; (with_reducible refine (D1.out _).mono ?_); rintro e w1 ⟨rfl, hb⟩; have HB2 := Lib.hid (HB1.out.trans (hb.mono HB1.out.size)); clear hb)
                | (go_at_call 28; (with_reducible refine (D2.out _).mono ?_); rintro e w1 ⟨rfl, ⟨nd, rfl⟩⟩))
              go_roundw
              case rel => exact ⟨i + 1, by go_num, by omega, H, Lib.hid (dN HB2.out _)⟩
              case measure => simp [intOf]; omega
          | false =>
            have H := Lib.hid (show domF s (s.size - (i + 1)) (i + 1) = R by rw [← hK, h1]; rfl)
            rw [h1] at D1
            clear hK h1 D2
            go_wp2_with (go_at_call 32; (with_reducible refine (D1.out _).mono ?_); rintro e w1 ⟨rfl, hb⟩; have HB2 := Lib.hid (HB1.out.trans (hb.mono HB1.out.size)); clear hb)
            go_roundw
            case rel => exact ⟨i + 1, by go_num, by omega, H, HB2⟩
            case measure => simp [intOf]; omega
        · have H := Lib.hid (show domF s (s.size - (i + 1)) (i + 1) = R by rw [← hK, beq_eq_false_iff_ne.2 h0]; rfl)
          have h0f : ((s[i].toNat : Int) = 58) = False := eq_false h0
          have h0g : ((s[i].toNat : Int) == 58) = false := beq_eq_false_iff_ne.2 h0
          clear hK D1 D2 h0
          go_wp2_with fail
          go_roundw
          case rel => exact ⟨i + 1, by go_num, by omega, H, HB1⟩
          case measure => simp [intOf]; omega
      · have H := Lib.hid (show R = false by rw [← HK.out, show s.size - i = 0 by omega]; rfl)
        clear HK
        go_wp2
        go_ret
        exact ⟨by rw [H.out]; rfl, HB1.out⟩

end Go.Proofs.Ytmlcpnehihmhaaa.Gr
namespace Go.Proofs.Ytmlcpnehihmhaaa.Gr

open Go Go.RowKit Go.Lib Go.Proofs Go.Proofs.Ytmlcpnehihmhaaa Go.Proofs.Ytmlcpnehihmhaaa.Base Go.Proofs.Ytmlcpnehihmhaaa.L Go.Proofs.Ytmlcpnehihmhaaa.Bt Go.Proofs.Ytmlcpnehihmhaaa.PX

open Go.Proofs.YtmlcpnehihmhaaaW.PrintWords Go.Proofs.YtmlcpnehihmhaaaW.PrintLast Go.Proofs.YtmlcpnehihmhaaaW.PrintMore

attribute [local go_sem] setCell_drewN alloc_drewN

set_option linter.unusedVariables false

def wordB (c : Int) : Bool := pB spec_refWord.f c

theorem word_f (c : Int) : spec_refWord.f c = some (wordB c) := by
  obtain ⟨r, h⟩ := tot_refWord c
  unfold wordB pB; rw [h]; rfl

def tagB (s : ByteArray) : Bool := decide (s.size ≤ 128) && allB (pB spec_RefIsTag_1.f) s && wordB (bt s 0)

set_option maxHeartbeats 4000000 in
theorem tagW (s : ByteArray) (hs : s.size ≤ 1099511627776) (w : World) : Calls Try.prog 19 #[.string s] w fun e w' => e = .returned (.bool (tagB s)) ∧ Drawn0 w w' := by
  obtain ⟨R, hR⟩ : ∃ R, tagB s = R := ⟨_, rfl⟩
  rw [hR]
  unfold tagB at hR
  by_cases h1 : s.size ≤ 128
  · rw [decide_eq_true h1] at hR
    have p0 : (128 < s.size) = False := by simpa using h1
    have p1 : decide ((s.size : Int) ≤ 128) = true := decide_eq_true (by omega)
    have C := Lib.hid (fun W => all_RefIsTag_1 s hs W)
    clear h1
    cases h : allB (pB spec_RefIsTag_1.f) s with
    | false =>
      rw [h] at C
      have H := Lib.hid (show R = false by rw [← hR, h]; rfl)
      clear hR h
      go_enter Try.func19, Try.ntmps19
      go_wp2_with (go_at_call 28; (with_reducible refine (C.out _).mono ?_); rintro e w1 ⟨rfl, ⟨nd, rfl⟩⟩)
      go_ret
      exact ⟨by rw [H.out]; rfl, (Drawn0.refl _).step _⟩
    | true =>
      have hp := all_pos h
      rw [h] at C hR
      have hx : bt s 0 = (s[0].toNat : Int) := bt_nat s 0 hp
      rw [hx] at hR
      have D := Lib.hid (fun W => spec_refWord.calls (s[0].toNat : Int) _ W (word_f _))
      have H := Lib.hid (show R = wordB (s[0].toNat : Int) by rw [← hR]; rfl)
      clear hR h hx
      go_enter Try.func19, Try.ntmps19
      go_wp2_with (first
        | (go_at_call 28; (with_reducible refine (C.out _).mono ?_); rintro e w1 ⟨rfl, ⟨nd, rfl⟩⟩)
        | (go_at_call 31; (with_reducible refine (D.out _).mono ?_); rintro e w1 ⟨rfl, ⟨nd, rfl⟩⟩))
      go_ret
      exact ⟨by rw [H.out]; rfl, (Drawn0.refl _).step _⟩
  · rw [decide_eq_false h1] at hR
    have H := Lib.hid (show R = false by rw [← hR]; rfl)
    have p0 : 128 < s.size := by omega
    have p1 : decide ((s.size : Int) ≤ 128) = false := decide_eq_false (by omega)
    clear hR h1
    go_enter Try.func19, Try.ntmps19
    go_wp2
    go_ret
    exact ⟨by rw [H.out]; rfl, Drawn0.refl _⟩

/-- A digest by the grammar. -/
def digestB (s : ByteArray) : Bool := match fst 58 (bl s) with
  | none => false
  | some j => algL true (bl (s.extract 0 j)) && decide (32 ≤ s.size - (j + 1)) && allB (pB spec_refHex.f) (s.extract (j + 1) s.size)

set_option maxHeartbeats 4000000 in
theorem digestW (s : ByteArray) (hs : s.size ≤ 1099511627776) (w : World) : Calls Try.prog 17 #[.string s] w fun e w' => e = .returned (.bool (digestB s)) ∧ Drawn0 w w' := by
  obtain ⟨R, hR⟩ : ∃ R, digestB s = R := ⟨_, rfl⟩
  rw [hR]
  unfold digestB at hR
  have C0 := (fun W => spec_RefFirst.calls (s.size + 1) s 58 _ W (first_f s 58 hs _ (by omega)))
  unfold fstI at C0
  cases hf : fst 58 (bl s) with
  | none =>
    rw [hf] at hR C0
    have C := Lib.hid (show ∀ W : World, Calls Try.prog 16 #[.string s, .int .u8 58] W fun e w' => e = .returned (.int .i64 (-1)) ∧ Drawn0 W w' from C0)
    have H := Lib.hid (show R = false from hR.symm)
    clear hR C0 hf
    go_enter Try.func17, Try.ntmps17
    go_wp2_with (go_at_call 16; (with_reducible refine (C.out _).mono ?_); rintro e w1 ⟨rfl, ⟨nd, rfl⟩⟩)
    go_ret
    exact ⟨by rw [H.out]; rfl, (Drawn0.refl _).step _⟩
  | some j =>
    have hj := fst_lt 58 _ j hf
    rw [bl_len] at hj
    rw [hf] at hR C0
    have C := Lib.hid (show ∀ W : World, Calls Try.prog 16 #[.string s, .int .u8 58] W fun e w' => e = .returned (.int .i64 (j : Int)) ∧ Drawn0 W w' from fun W => by have := C0 W; simp only [Nat.zero_add] at this; exact this)
    clear C0 hf
    simp only at hR
    have D := Lib.hid (fun W => spec_RefAlgorithm.calls (3 * s.size + 4) (s.extract 0 j) _ W (alg_f (s.extract 0 j) (by rw [ByteArray.size_extract]; omega) _ (by rw [ByteArray.size_extract]; omega)))
    have E := Lib.hid (fun W => all_refHex (s.extract (j + 1) s.size) (by rw [ByteArray.size_extract]; omega) W)
    have q0 : decide (0 ≤ (j : Int)) = true := decide_eq_true (by omega)
    have q1 : decide ((j : Int) < 0) = false := decide_eq_false (by omega)
    generalize allB (pB spec_refHex.f) (s.extract (j + 1) s.size) = hx at *
    cases ha : algL true (bl (s.extract 0 j)) with
    | false =>
      rw [ha] at D
      have H := Lib.hid (show R = false by rw [← hR, ha]; rfl)
      clear hR ha E
      go_enter Try.func17, Try.ntmps17
      go_wp2_with (first
        | (go_at_call 16; (with_reducible refine (C.out _).mono ?_); rintro e w1 ⟨rfl, ⟨nd, rfl⟩⟩)
        | (go_at_call 27; (with_reducible refine (D.out _).mono ?_); rintro e w1 ⟨rfl, ⟨nd, rfl⟩⟩))
      go_ret
      exact ⟨by rw [H.out]; rfl, (Drawn0.refl _).step _⟩
    | true =>
      rw [ha] at D hR
      clear ha
      by_cases h3 : 32 ≤ s.size - (j + 1)
      · have H := Lib.hid (show R = hx by rw [← hR, decide_eq_true h3]; rfl)
        have p1 : decide (32 ≤ (s.size : Int) - (j : Int) - 1) = true := decide_eq_true (by omega)
        have p2 : decide ((s.size : Int) - (j : Int) - 1 < 32) = false := decide_eq_false (by omega)
        have p3 : 0 ≤ (s.size : Int) - (j : Int) - 1 := by omega
        have p4 : 0 ≤ (s.size : Int) - (j : Int) := by omega
        clear hR h3
        go_enter Try.func17, Try.ntmps17
        go_wp2_with (first
          | (go_at_call 16; (with_reducible refine (C.out _).mono ?_); rintro e w1 ⟨rfl, ⟨nd, rfl⟩⟩)
          | (go_at_call 27; (with_reducible refine (D.out _).mono ?_); rintro e w1 ⟨rfl, ⟨nd, rfl⟩⟩)
          | (go_at_call 28; (with_reducible refine (E.out _).mono ?_); rintro e w1 ⟨rfl, ⟨nd, rfl⟩⟩))
        go_ret
        exact ⟨by rw [H.out]; rfl, (Drawn0.refl _).step _⟩
      · have H := Lib.hid (show R = false by rw [← hR, decide_eq_false h3]; rfl)
        have p1 : decide (32 ≤ (s.size : Int) - (j : Int) - 1) = false := decide_eq_false (by omega)
        have p2 : decide ((s.size : Int) - (j : Int) - 1 < 32) = true := decide_eq_true (by omega)
        have p3 : 0 ≤ (s.size : Int) - (j : Int) - 1 := by omega
        have p4 : 0 ≤ (s.size : Int) - (j : Int) := by omega
        clear hR h3 E
        go_enter Try.func17, Try.ntmps17
        go_wp2_with (first
          | (go_at_call 16; (with_reducible refine (C.out _).mono ?_); rintro e w1 ⟨rfl, ⟨nd, rfl⟩⟩)
          | (go_at_call 27; (with_reducible refine (D.out _).mono ?_); rintro e w1 ⟨rfl, ⟨nd, rfl⟩⟩))
        go_ret
        exact ⟨by rw [H.out]; rfl, (Drawn0.refl _).step _⟩

/-- How many bytes an algorithm's sum has, and what is wrong with an encoded part. -/
def sizeD (a : ByteArray) : Int := (spec_DigestSize.f a).getD 0

theorem sizeD_f (a : ByteArray) : spec_DigestSize.f a = some (sizeD a) ∧ (sizeD a = 0 ∨ sizeD a = 32 ∨ sizeD a = 48 ∨ sizeD a = 64) := by
  unfold sizeD spec_DigestSize.f
  repeat' split
  all_goals simp

def fitsI (a e : ByteArray) : Int := if sizeD a = 0 then 8 else if (e.size : Int) ≠ 2 * sizeD a then 9 else if allB (pB spec_refSmallHex.f) e = true then 0 else 3

set_option maxHeartbeats 4000000 in
theorem fitsW (a e : ByteArray) (hs : e.size ≤ 1099511627776) (w : World) : Calls Try.prog 25 #[.string a, .string e] w fun e' w' => e' = .returned (.int .i64 (fitsI a e)) ∧ Drawn0 w w' := by
  obtain ⟨R, hR⟩ : ∃ R, fitsI a e = R := ⟨_, rfl⟩
  rw [hR]
  unfold fitsI at hR
  obtain ⟨hd, hn⟩ := sizeD_f a
  have C := Lib.hid (fun W => spec_DigestSize.calls a _ W hd)
  have E := Lib.hid (fun W => all_refSmallHex e hs W)
  clear hd
  generalize sizeD a = n at *
  by_cases h0 : n = 0
  · have H := Lib.hid (show R = 8 by rw [← hR, if_pos h0])
    subst h0
    clear hR hn
    go_enter Try.func25, Try.ntmps25
    go_wp2_with (go_at_call 23; (with_reducible refine (C.out _).mono ?_); rintro e w1 ⟨rfl, ⟨nd, rfl⟩⟩)
    go_ret
    exact ⟨by rw [H.out]; rfl, (Drawn0.refl _).step _⟩
  · rw [if_neg h0] at hR
    have q0 : (n == 0) = false := beq_eq_false_iff_ne.2 h0
    have q1 : 0 ≤ n := by omega
    have q2 : n ≤ 64 := by omega
    by_cases h2 : (e.size : Int) ≠ 2 * n
    · have H := Lib.hid (show R = 9 by rw [← hR, if_pos h2])
      have q3 : ((e.size : Int) != 2 * n) = true := bne_iff_ne.2 h2
      have q4 : ((e.size : Int) == 2 * n) = false := beq_eq_false_iff_ne.2 h2
      clear hR hn h0 h2 E
      go_enter Try.func25, Try.ntmps25
      go_wp2_with (go_at_call 23; (with_reducible refine (C.out _).mono ?_); rintro e w1 ⟨rfl, ⟨nd, rfl⟩⟩)
      go_ret
      exact ⟨by rw [H.out]; rfl, (Drawn0.refl _).step _⟩
    · rw [if_neg h2] at hR
      have q3 : ((e.size : Int) != 2 * n) = false := by have : (e.size : Int) = 2 * n := by omega
                                                        rw [this]; simp
      clear hn h0 h2
      cases hh : allB (pB spec_refSmallHex.f) e with
      | true =>
        have H := Lib.hid (show R = 0 by rw [← hR, if_pos hh])
        rw [hh] at E
        clear hR hh
        go_enter Try.func25, Try.ntmps25
        go_wp2_with (first
          | (go_at_call 23; (with_reducible refine (C.out _).mono ?_); rintro e w1 ⟨rfl, ⟨nd, rfl⟩⟩)
          | (go_at_call 28; (with_reducible refine (E.out _).mono ?_); rintro e w1 ⟨rfl, ⟨nd, rfl⟩⟩))
        go_ret
        exact ⟨by rw [H.out]; rfl, (Drawn0.refl _).step _⟩
      | false =>
        have H := Lib.hid (show R = 3 by rw [← hR, if_neg (by rw [hh]; exact Bool.false_ne_true)])
        rw [hh] at E
        clear hR hh
        go_enter Try.func25, Try.ntmps25
        go_wp2_with (first
          | (go_at_call 23; (with_reducible refine (C.out _).mono ?_); rintro e w1 ⟨rfl, ⟨nd, rfl⟩⟩)
          | (go_at_call 28; (with_reducible refine (E.out _).mono ?_); rintro e w1 ⟨rfl, ⟨nd, rfl⟩⟩))
        go_ret
        exact ⟨by rw [H.out]; rfl, (Drawn0.refl _).step _⟩

/-- The words of an algorithm of the published form. -/
def lowB (c : UInt8) : Bool := pB spec_refLower.f (c.toNat : Int)

theorem low_f (c : UInt8) : spec_refLower.f (c.toNat : Int) = some (lowB c) := by
  obtain ⟨r, h⟩ := tot_refLower (c.toNat : Int)
  unfold lowB pB; rw [h]; rfl

def formL : Bool → List UInt8 → Bool
  | b, [] => !b
  | b, c :: r => if lowB c then formL false r else if b then false else if sgn c then formL true r else false

def formB (s : ByteArray) : Bool := match fst 58 (bl s) with
  | none => false
  | some j => allB (pB spec_DigestForm_1.f) (s.extract (j + 1) s.size) && formL true ((bl s).take j)

theorem td_cons (s : ByteArray) (j k : Nat) (hj : j ≤ s.size) (h : k < j) : ((bl s).take j).drop k = s[k] :: ((bl s).take j).drop (k + 1) := by
  rw [List.drop_eq_getElem_cons (by rw [List.length_take, bl_len]; omega), List.getElem_take]
  rfl

set_option maxHeartbeats 8000000 in
theorem formW (s : ByteArray) (hs : s.size ≤ 1099511627776) (w : World) : Calls Try.prog 24 #[.string s] w fun e w' => e = .returned (.bool (formB s)) ∧ Drawn0 w w' := by
  obtain ⟨R, hR⟩ : ∃ R, formB s = R := ⟨_, rfl⟩
  rw [hR]
  unfold formB at hR
  have C0 := (fun W => spec_RefFirst.calls (s.size + 1) s 58 _ W (first_f s 58 hs _ (by omega)))
  unfold fstI at C0
  cases hf : fst 58 (bl s) with
  | none =>
    rw [hf] at hR C0
    have C := Lib.hid (show ∀ W : World, Calls Try.prog 16 #[.string s, .int .u8 58] W fun e w' => e = .returned (.int .i64 (-1)) ∧ Drawn0 W w' from C0)
    have H := Lib.hid (show R = false from hR.symm)
    clear hR C0 hf
    go_enter Try.func24, Try.ntmps24
    go_wp2_with (go_at_call 16; (with_reducible refine (C.out _).mono ?_); rintro e w1 ⟨rfl, ⟨nd, rfl⟩⟩)
    go_ret
    exact ⟨by rw [H.out]; rfl, (Drawn0.refl _).step _⟩
  | some j =>
    have hj := fst_lt 58 _ j hf
    rw [bl_len] at hj
    rw [hf] at hR C0
    have C := Lib.hid (show ∀ W : World, Calls Try.prog 16 #[.string s, .int .u8 58] W fun e w' => e = .returned (.int .i64 (j : Int)) ∧ Drawn0 W w' from fun W => by have := C0 W; simp only [Nat.zero_add] at this; exact this)
    clear C0 hf
    simp only at hR
    have E := Lib.hid (fun W => all_DigestForm_1 (s.extract (j + 1) s.size) (by rw [ByteArray.size_extract]; omega) W)
    have q0 : decide ((j : Int) < 0) = false := decide_eq_false (by omega)
    cases ha : allB (pB spec_DigestForm_1.f) (s.extract (j + 1) s.size) with
    | false =>
      rw [ha] at E
      have H := Lib.hid (show R = false by rw [← hR, ha]; rfl)
      clear hR ha
      go_enter Try.func24, Try.ntmps24
      go_wp2_with (first
        | (go_at_call 16; (with_reducible refine (C.out _).mono ?_); rintro e w1 ⟨rfl, ⟨nd, rfl⟩⟩)
        | (go_at_call 28; (with_reducible refine (E.out _).mono ?_); rintro e w1 ⟨rfl, ⟨nd, rfl⟩⟩))
      go_ret
      exact ⟨by rw [H.out]; rfl, (Drawn0.refl _).step _⟩
    | true =>
      rw [ha] at E hR
      have H := Lib.hid (show formL true ((bl s).take j) = R by rw [← hR]; rfl)
      clear hR ha
      go_enter Try.func24, Try.ntmps24
      go_wp2_with (first
        | (go_at_call 16; (with_reducible refine (C.out _).mono ?_); rintro e w1 ⟨rfl, ⟨nd, rfl⟩⟩)
        | (go_at_call 28; (with_reducible refine (E.out _).mono ?_); rintro e w1 ⟨rfl, ⟨nd, rfl⟩⟩))
      clear C E q0
      go_loopw [4, 5] (fun b v w' => ∃ (k : Nat) (bb : Bool), v = .int .i64 (k : Int) ∧ b = .bool bb ∧ k ≤ j ∧ Hid (formL bb (((bl s).take j).drop k) = R) ∧ Hid (Drawn0 w w')) (fun _ v _ => j - (intOf v).toNat)
      case atStart => exact ⟨0, true, rfl, rfl, Nat.zero_le _, Lib.hid H.out, Lib.hid ((Drawn0.refl _).step _)⟩
      case round =>
        obtain ⟨k, bb, rfl, rfl, hk, HK, HD⟩ := hrel
        clear H
        by_cases hlt : k < j
        · have hK := HK.out
          rw [td_cons s j k (by omega) hlt, formL] at hK
          have hks : k < s.size := by omega
          have D := Lib.hid (fun W => spec_refLower.calls (s[k].toNat : Int) _ W (low_f s[k]))
          have b0 : decide (k < j) = true := decide_eq_true hlt
          have b1 : decide ((k : Int) < (j : Int)) = true := decide_eq_true (by omega)
          clear HK
          cases hl : lowB s[k] with
          | true =>
            rw [hl] at D hK
            have H := Lib.hid (show formL false (((bl s).take j).drop (k + 1)) = R from hK)
            clear hK hl
            go_wp2_with (go_at_call 38; (with_reducible refine (D.out _).mono ?_); rintro e w1 ⟨rfl, ⟨nd, rfl⟩⟩)
            go_roundw
            case rel => exact ⟨k + 1, false, by go_num, rfl, by omega, H, Lib.hid (HD.out.step _)⟩
            case measure => simp [intOf]; omega
          | false =>
            rw [hl, if_neg (by simp)] at hK
            rw [hl] at D
            cases bb with
            | true =>
              have H := Lib.hid (show R = false from hK.symm)
              clear hK hl
              go_wp2_with (go_at_call 38; (with_reducible refine (D.out _).mono ?_); rintro e w1 ⟨rfl, ⟨nd, rfl⟩⟩)
              go_ret
              exact ⟨by rw [H.out]; rfl, HD.out.step _⟩
            | false =>
              rw [if_neg (by simp)] at hK
              have hb : ∀ n : UInt8, ((s[k].toNat : Int) == (n.toNat : Int)) = (s[k] == n) := fun n => byte_eq _ _
              have hv : ∀ n : UInt8, ((s[k].toNat : Int) != (n.toNat : Int)) = !(s[k] == n) := fun n => by rw [← hb n]; rfl
              have e43 : ((s[k].toNat : Int) != 43) = !(s[k] == 43) := hv 43
              have e46 : ((s[k].toNat : Int) != 46) = !(s[k] == 46) := hv 46
              have e45 : ((s[k].toNat : Int) != 45) = !(s[k] == 45) := hv 45
              have e95 : ((s[k].toNat : Int) != 95) = !(s[k] == 95) := hv 95
              have f43 : ((s[k].toNat : Int) == 43) = (s[k] == 43) := hb 43
              have f46 : ((s[k].toNat : Int) == 46) = (s[k] == 46) := hb 46
              have f45 : ((s[k].toNat : Int) == 45) = (s[k] == 45) := hb 45
              have f95 : ((s[k].toNat : Int) == 95) = (s[k] == 95) := hb 95
              unfold sgn at hK
              clear hb hv hl
              cases g43 : s[k] == 43
              all_goals (cases g46 : s[k] == 46)
              all_goals (cases g45 : s[k] == 45)
              all_goals (cases g95 : s[k] == 95)
              all_goals (
                rw [g43] at e43 f43; rw [g46] at e46 f46; rw [g45] at e45 f45; rw [g95] at e95 f95
                rw [g43, g46, g45, g95] at hK
                simp only [Bool.not_true, Bool.not_false] at e43 e46 e45 e95
                clear g43 g46 g45 g95)
              all_goals first
                | (have H := Lib.hid (show formL true (((bl s).take j).drop (k + 1)) = R from hK)
                   clear hK
                   go_wp2_with (go_at_call 38; (with_reducible refine (D.out _).mono ?_); rintro e w1 ⟨rfl, ⟨nd, rfl⟩⟩)
                   go_roundw
                   case rel => exact ⟨k + 1, true, by go_num, rfl, by omega, H, Lib.hid (HD.out.step _)⟩
                   case measure => simp [intOf]; omega)
                | (have H := Lib.hid (show R = false from hK.symm)
                   clear hK
                   go_wp2_with (go_at_call 38; (with_reducible refine (D.out _).mono ?_); rintro e w1 ⟨rfl, ⟨nd, rfl⟩⟩)
                   go_ret
                   exact ⟨by rw [H.out]; rfl, HD.out.step _⟩)
        · have H := Lib.hid (show R = !bb by rw [← HK.out, List.drop_of_length_le (by rw [List.length_take]; omega)]; rfl)
          have b0 : decide (k < j) = false := decide_eq_false hlt
          have b1 : decide ((k : Int) < (j : Int)) = false := decide_eq_false (by omega)
          clear HK
          go_wp2
          go_ret
          exact ⟨by rw [H.out]; rfl, HD.out⟩

end Go.Proofs.Ytmlcpnehihmhaaa.Gr
namespace Go.Proofs.Ytmlcpnehihmhaaa.PX

open Go Go.Proofs Go.RowKit Go.Lib Go.Proofs.Ytmlcpnehihmhaaa.Gr

def spec_RefPath.f (a0 : ByteArray) : Option Bool := if a0.size ≤ 1099511627776 then some (pathB a0) else none

theorem spec_RefPath.calls (a0 : ByteArray) (r : Bool) (w : World) (h : spec_RefPath.f a0 = some r) :
    Calls Try.prog 22 #[.string a0] w fun e w' => e = .returned (.bool r) ∧ Below w.heap.size w w' := by
  unfold spec_RefPath.f at h
  split at h
  · rename_i hs
    cases h
    exact pathW a0 hs w
  · cases h

def spec_RefIsDomain.f (a0 : ByteArray) : Option Bool := if a0.size ≤ 1099511627776 then some (domB a0) else none

theorem spec_RefIsDomain.calls (a0 : ByteArray) (r : Bool) (w : World) (h : spec_RefIsDomain.f a0 = some r) :
    Calls Try.prog 21 #[.string a0] w fun e w' => e = .returned (.bool r) ∧ Below w.heap.size w w' := by
  unfold spec_RefIsDomain.f at h
  split at h
  · rename_i hs
    cases h
    exact domW a0 hs w
  · cases h

def spec_RefIsTag.f (a0 : ByteArray) : Option Bool := if a0.size ≤ 1099511627776 then some (tagB a0) else none

theorem spec_RefIsTag.calls (a0 : ByteArray) (r : Bool) (w : World) (h : spec_RefIsTag.f a0 = some r) :
    Calls Try.prog 19 #[.string a0] w fun e w' => e = .returned (.bool r) ∧ Below w.heap.size w w' := by
  unfold spec_RefIsTag.f at h
  split at h
  · rename_i hs
    cases h
    exact (tagW a0 hs w).mono fun e w' q => ⟨q.1, q.2.below⟩
  · cases h

def spec_RefIsDigest.f (a0 : ByteArray) : Option Bool := if a0.size ≤ 1099511627776 then some (digestB a0) else none

theorem spec_RefIsDigest.calls (a0 : ByteArray) (r : Bool) (w : World) (h : spec_RefIsDigest.f a0 = some r) :
    Calls Try.prog 17 #[.string a0] w fun e w' => e = .returned (.bool r) ∧ Below w.heap.size w w' := by
  unfold spec_RefIsDigest.f at h
  split at h
  · rename_i hs
    cases h
    exact (digestW a0 hs w).mono fun e w' q => ⟨q.1, q.2.below⟩
  · cases h

def spec_DigestForm.f (a0 : ByteArray) : Option Bool := if a0.size ≤ 1099511627776 then some (formB a0) else none

theorem spec_DigestForm.calls (a0 : ByteArray) (r : Bool) (w : World) (h : spec_DigestForm.f a0 = some r) :
    Calls Try.prog 24 #[.string a0] w fun e w' => e = .returned (.bool r) ∧ Below w.heap.size w w' := by
  unfold spec_DigestForm.f at h
  split at h
  · rename_i hs
    cases h
    exact (formW a0 hs w).mono fun e w' q => ⟨q.1, q.2.below⟩
  · cases h

def spec_DigestFits.f (a0 a1 : ByteArray) : Option Int := if a1.size ≤ 1099511627776 then some (fitsI a0 a1) else none

theorem spec_DigestFits.calls (a0 a1 : ByteArray) (r : Int) (w : World) (h : spec_DigestFits.f a0 a1 = some r) :
    Calls Try.prog 25 #[.string a0, .string a1] w fun e w' => e = .returned (.int .i64 r) ∧ Below w.heap.size w w' := by
  unfold spec_DigestFits.f at h
  split at h
  · rename_i hs
    cases h
    exact (fitsW a0 a1 hs w).mono fun e w' q => ⟨q.1, q.2.below⟩
  · cases h

end Go.Proofs.Ytmlcpnehihmhaaa.PX
namespace Go.Proofs.Ytmlcpnehihmhaaa.PX

open Go.RowKit Go.Proofs.YtmlcpnehihmhaaaW.PrintWords Go.Proofs.YtmlcpnehihmhaaaW.PrintLast Go.Proofs.YtmlcpnehihmhaaaW.PrintMore

attribute [local go_sem] max2_int min2_int max_two min_two max_three min_three max_four min_four   -- for this text's walks alone

set_option linter.unusedVariables false

set_option linter.unusedSimpArgs false

def spec_RefNameGroups.j0 : Nat → ByteArray → Int → Bool → Option (ByteArray × ByteArray × Bool)
  | 0, _, _, _ => none
  | k + 1, x0, x5, x22 => if x22 = true then (if 0 ≤ x5 then (if x5 ≤ (x0.size : Int) then (if 0 ≤ (wrap64 (x5 + 1)) then (if (wrap64 (x5 + 1)) ≤ (x0.size : Int) then (some (x0.extract 0 (x5 : Int).toNat, x0.extract ((wrap64 (x5 + 1)) : Int).toNat x0.size, true)) else (none)) else (none)) else (none)) else (none)) else ((spec_RefPath.f x0).bind fun t105 => (if t105 = true then (some ((⟨#[]⟩ : ByteArray), x0, true)) else (some ((⟨#[]⟩ : ByteArray), (⟨#[]⟩ : ByteArray), false))))

def spec_RefNameGroups.f (k : Nat) (a0 : ByteArray) : Option (ByteArray × ByteArray × Bool) := (spec_RefFirst.f k a0 47).bind fun t102 => (if t102 ≥ 0 then (if 0 ≤ t102 then (if t102 ≤ (a0.size : Int) then ((spec_RefIsDomain.f (a0.extract 0 (t102 : Int).toNat)).bind fun t103 => (if t103 = true then (if 0 ≤ (wrap64 (t102 + 1)) then (if (wrap64 (t102 + 1)) ≤ (a0.size : Int) then ((spec_RefPath.f (a0.extract ((wrap64 (t102 + 1)) : Int).toNat a0.size)).bind fun t104 => (spec_RefNameGroups.j0 k a0 t102 t104)) else (none)) else (none)) else (spec_RefNameGroups.j0 k a0 t102 false))) else (none)) else (none)) else (spec_RefNameGroups.j0 k a0 t102 false))

set_option maxHeartbeats 80000000 in
set_option maxRecDepth 100000 in
theorem spec_RefNameGroups.calls (k : Nat) (a0 : ByteArray) (r1 : ByteArray) (r2 : ByteArray) (r3 : Bool) (w : World) (h : spec_RefNameGroups.f k a0 = some (r1, r2, r3)) :
  Calls Try.prog 12 #[.string a0] w fun e w' => e = .returned (.tuple #[.string r1, .string r2, .bool r3]) ∧ Below w.heap.size w w' := by
 have HB := Aside0.mk (Below.refl w.heap.size w)
 have H : ((spec_RefFirst.f k a0 47).bind fun t102 => (if t102 ≥ 0 then (if 0 ≤ t102 then (if t102 ≤ (a0.size : Int) then ((spec_RefIsDomain.f (a0.extract 0 (t102 : Int).toNat)).bind fun t103 => (if t103 = true then (if 0 ≤ (wrap64 (t102 + 1)) then (if (wrap64 (t102 + 1)) ≤ (a0.size : Int) then ((spec_RefPath.f (a0.extract ((wrap64 (t102 + 1)) : Int).toNat a0.size)).bind fun t104 => (spec_RefNameGroups.j0 k a0 t102 t104)) else (none)) else (none)) else (spec_RefNameGroups.j0 k a0 t102 false))) else (none)) else (none)) else (spec_RefNameGroups.j0 k a0 t102 false))) = some (r1, r2, r3) := h
 clear h
 replace H := Option.bind_eq_some_iff.mp H
 obtain ⟨t102, A20, H⟩ := H
 replace H : (if t102 ≥ 0 then (if 0 ≤ t102 then (if t102 ≤ (a0.size : Int) then ((spec_RefIsDomain.f (a0.extract 0 (t102 : Int).toNat)).bind fun t103 => (if t103 = true then (if 0 ≤ (wrap64 (t102 + 1)) then (if (wrap64 (t102 + 1)) ≤ (a0.size : Int) then ((spec_RefPath.f (a0.extract ((wrap64 (t102 + 1)) : Int).toNat a0.size)).bind fun t104 => (spec_RefNameGroups.j0 k a0 t102 t104)) else (none)) else (none)) else (spec_RefNameGroups.j0 k a0 t102 false))) else (none)) else (none)) else (spec_RefNameGroups.j0 k a0 t102 false)) = some (r1, r2, r3) := H
 have A2 := Aside0.mk A20
 clear A20
 have HC3 := Aside0.mk H
 clear H
 go_enter Try.func12, Try.ntmps12
 go_upto_region 2 with (first | (go_at_call 16; (with_reducible refine (spec_RefFirst.calls k a0 47 t102 _ A2.out).mono ?_); rintro e w' ⟨rfl, ⟨nd, rfl⟩⟩; (try first | exact ⟨rfl, _, World.drewN_drewN _ _ _⟩ | exact ⟨rfl, _, Eq.trans (World.drewN_drewN _ _ _) (congrArg (World.drewN _) (Nat.add_assoc _ _ _))⟩)))
 repeat (go_quiet (first | (go_at_call 16; (with_reducible refine (spec_RefFirst.calls k a0 47 t102 _ A2.out).mono ?_); rintro e w' ⟨rfl, ⟨nd, rfl⟩⟩; (try first | exact ⟨rfl, _, World.drewN_drewN _ _ _⟩ | exact ⟨rfl, _, Eq.trans (World.drewN_drewN _ _ _) (congrArg (World.drewN _) (Nat.add_assoc _ _ _))⟩))); go_upto_region 2 with (first | (go_at_call 16; (with_reducible refine (spec_RefFirst.calls k a0 47 t102 _ A2.out).mono ?_); rintro e w' ⟨rfl, ⟨nd, rfl⟩⟩; (try first | exact ⟨rfl, _, World.drewN_drewN _ _ _⟩ | exact ⟨rfl, _, Eq.trans (World.drewN_drewN _ _ _) (congrArg (World.drewN _) (Nat.add_assoc _ _ _))⟩))))
 (try simp only [Act.put, List.setIfInBounds_toArray, List.set_cons_zero, List.set_cons_succ])
 go_cut [22] (fun v22 wc => ∃ (kq : Nat) (x22_2 : Bool), v22 = .bool x22_2 ∧ Aside0 (spec_RefNameGroups.j0 kq a0 t102 x22_2 = some (r1, r2, r3)) ∧ Aside0 (kq ≤ k) ∧ Aside0 (Below w.heap.size w wc))
 case first =>
  have H := HC3.out
  clear HC3
  by_cases c4 : t102 ≥ 0
  ·
   rw [if_pos c4] at H
   have c4b0 : decide (0 ≤ t102) = true := decide_eq_true c4
   clear c4
   (first | rw [c4b0] | (simp only [i64_w, i32_w]; rw [c4b0]) | skip)
   by_cases c5 : 0 ≤ t102
   ·
    rw [if_pos c5] at H
    have c5b0 := eq_true c5
    have c5b1 : decide (0 ≤ t102) = true := decide_eq_true c5
    clear c5
    by_cases c6 : t102 ≤ (a0.size : Int)
    ·
     rw [if_pos c6] at H
     have c6b0 := eq_true c6
     have c6b1 : decide (t102 ≤ (a0.size : Int)) = true := decide_eq_true c6
     clear c6
     replace H := Option.bind_eq_some_iff.mp H
     obtain ⟨t103, A70, H⟩ := H
     replace H : (if t103 = true then (if 0 ≤ (wrap64 (t102 + 1)) then (if (wrap64 (t102 + 1)) ≤ (a0.size : Int) then ((spec_RefPath.f (a0.extract ((wrap64 (t102 + 1)) : Int).toNat a0.size)).bind fun t104 => (spec_RefNameGroups.j0 k a0 t102 t104)) else (none)) else (none)) else (spec_RefNameGroups.j0 k a0 t102 false)) = some (r1, r2, r3) := H
     have A7 := Aside0.mk A70
     clear A70
     by_cases c8 : t103 = true
     ·
      subst c8
      have H1 : (if 0 ≤ (wrap64 (t102 + 1)) then (if (wrap64 (t102 + 1)) ≤ (a0.size : Int) then ((spec_RefPath.f (a0.extract ((wrap64 (t102 + 1)) : Int).toNat a0.size)).bind fun t104 => (spec_RefNameGroups.j0 k a0 t102 t104)) else (none)) else (none)) = some (r1, r2, r3) := by rw [if_pos rfl] at H; exact H
      clear H
      have H := H1
      clear H1
      obtain ⟨ji9, hji9⟩ : ∃ j_ : Int, (wrap64 (t102 + 1)) = j_ := ⟨_, rfl⟩
      replace H : (if 0 ≤ (ji9) then (if (ji9) ≤ (a0.size : Int) then ((spec_RefPath.f (a0.extract ((ji9) : Int).toNat a0.size)).bind fun t104 => (spec_RefNameGroups.j0 k a0 t102 t104)) else (none)) else (none)) = some (r1, r2, r3) := by first | (rw [hji9] at H; exact H) | (simp only [hji9] at H ⊢; exact H)
      (try rw [hji9] at A7)
      have hji9w : (IntKind.i64.wrap (t102 + 1)) = ji9 := (i64_w _).trans hji9
      by_cases c10 : 0 ≤ (ji9)
      ·
       rw [if_pos c10] at H
       have c10b0 := eq_true c10
       have c10b1 : decide (0 ≤ (ji9)) = true := decide_eq_true c10
       clear c10
       by_cases c11 : (ji9) ≤ (a0.size : Int)
       ·
        rw [if_pos c11] at H
        have c11b0 := eq_true c11
        have c11b1 : decide ((ji9) ≤ (a0.size : Int)) = true := decide_eq_true c11
        clear c11
        replace H := Option.bind_eq_some_iff.mp H
        obtain ⟨t104, A120, H⟩ := H
        replace H : (spec_RefNameGroups.j0 k a0 t102 t104) = some (r1, r2, r3) := H
        have A12 := Aside0.mk A120
        clear A120
        have H' := Aside0.mk H
        clear H
        go_wp2_with (first | (go_at_call 21; (with_reducible refine (spec_RefIsDomain.calls (a0.extract 0 (t102 : Int).toNat) true _ A7.out).mono ?_); rintro e w13 ⟨rfl, hb⟩; have n0_ := Aside0.mk (below_step (by repeat (first | (with_reducible first | exact HB.out | apply below_alloc | apply pw_below_drewN | apply below_drew1) | exact HB.out)) hb); clear HB; have HB := n0_; clear n0_; (try clear hb); (try clear hb2); (try clear hk); (try clear hi)) | (go_at_call 22; (with_reducible refine (spec_RefPath.calls (a0.extract ((ji9) : Int).toNat a0.size) t104 _ A12.out).mono ?_); rintro e w14 ⟨rfl, hb⟩; have n0_ := Aside0.mk (below_step (by repeat (first | (with_reducible first | exact HB.out | apply below_alloc | apply pw_below_drewN | apply below_drew1) | exact HB.out)) hb); clear HB; have HB := n0_; clear n0_; (try clear hb); (try clear hb2); (try clear hk); (try clear hi)))
        repeat (go_quiet (first | (go_at_call 21; (with_reducible refine (spec_RefIsDomain.calls (a0.extract 0 (t102 : Int).toNat) true _ A7.out).mono ?_); rintro e w13 ⟨rfl, hb⟩; have n0_ := Aside0.mk (below_step (by repeat (first | (with_reducible first | exact HB.out | apply below_alloc | apply pw_below_drewN | apply below_drew1) | exact HB.out)) hb); clear HB; have HB := n0_; clear n0_; (try clear hb); (try clear hb2); (try clear hk); (try clear hi)) | (go_at_call 22; (with_reducible refine (spec_RefPath.calls (a0.extract ((ji9) : Int).toNat a0.size) t104 _ A12.out).mono ?_); rintro e w14 ⟨rfl, hb⟩; have n0_ := Aside0.mk (below_step (by repeat (first | (with_reducible first | exact HB.out | apply below_alloc | apply pw_below_drewN | apply below_drew1) | exact HB.out)) hb); clear HB; have HB := n0_; clear n0_; (try clear hb); (try clear hb2); (try clear hk); (try clear hi))); try go_wp2_with (first | (go_at_call 21; (with_reducible refine (spec_RefIsDomain.calls (a0.extract 0 (t102 : Int).toNat) true _ A7.out).mono ?_); rintro e w13 ⟨rfl, hb⟩; have n0_ := Aside0.mk (below_step (by repeat (first | (with_reducible first | exact HB.out | apply below_alloc | apply pw_below_drewN | apply below_drew1) | exact HB.out)) hb); clear HB; have HB := n0_; clear n0_; (try clear hb); (try clear hb2); (try clear hk); (try clear hi)) | (go_at_call 22; (with_reducible refine (spec_RefPath.calls (a0.extract ((ji9) : Int).toNat a0.size) t104 _ A12.out).mono ?_); rintro e w14 ⟨rfl, hb⟩; have n0_ := Aside0.mk (below_step (by repeat (first | (with_reducible first | exact HB.out | apply below_alloc | apply pw_below_drewN | apply below_drew1) | exact HB.out)) hb); clear HB; have HB := n0_; clear n0_; (try clear hb); (try clear hb2); (try clear hk); (try clear hi))))
        go_meet
        case rel => exact ⟨_, (t104), (by first | rfl | (simp; done) | (simp [*]; done)), H', ⟨by first | omega | exact Nat.le_refl _⟩, ⟨by repeat (first | (with_reducible first | exact HB.out | apply below_alloc | apply pw_below_drewN | apply below_drew1) | exact HB.out)⟩⟩
       ·
        rw [if_neg c11] at H
        exact absurd H (by simp)
      ·
       rw [if_neg c10] at H
       exact absurd H (by simp)
     ·
      replace c8 := Bool.eq_false_iff.mpr c8
      subst c8
      have H1 : (spec_RefNameGroups.j0 k a0 t102 false) = some (r1, r2, r3) := by rw [if_neg (show ¬ (false = true) by decide)] at H; exact H
      clear H
      have H := H1
      clear H1
      have H' := Aside0.mk H
      clear H
      go_wp2_with (first | (go_at_call 21; (with_reducible refine (spec_RefIsDomain.calls (a0.extract 0 (t102 : Int).toNat) false _ A7.out).mono ?_); rintro e w15 ⟨rfl, hb⟩; have n0_ := Aside0.mk (below_step (by repeat (first | (with_reducible first | exact HB.out | apply below_alloc | apply pw_below_drewN | apply below_drew1) | exact HB.out)) hb); clear HB; have HB := n0_; clear n0_; (try clear hb); (try clear hb2); (try clear hk); (try clear hi)))
      repeat (go_quiet (first | (go_at_call 21; (with_reducible refine (spec_RefIsDomain.calls (a0.extract 0 (t102 : Int).toNat) false _ A7.out).mono ?_); rintro e w15 ⟨rfl, hb⟩; have n0_ := Aside0.mk (below_step (by repeat (first | (with_reducible first | exact HB.out | apply below_alloc | apply pw_below_drewN | apply below_drew1) | exact HB.out)) hb); clear HB; have HB := n0_; clear n0_; (try clear hb); (try clear hb2); (try clear hk); (try clear hi))); try go_wp2_with (first | (go_at_call 21; (with_reducible refine (spec_RefIsDomain.calls (a0.extract 0 (t102 : Int).toNat) false _ A7.out).mono ?_); rintro e w15 ⟨rfl, hb⟩; have n0_ := Aside0.mk (below_step (by repeat (first | (with_reducible first | exact HB.out | apply below_alloc | apply pw_below_drewN | apply below_drew1) | exact HB.out)) hb); clear HB; have HB := n0_; clear n0_; (try clear hb); (try clear hb2); (try clear hk); (try clear hi))))
      go_meet
      case rel => exact ⟨_, (false), (by first | rfl | (simp; done) | (simp [*]; done)), H', ⟨by first | omega | exact Nat.le_refl _⟩, ⟨by repeat (first | (with_reducible first | exact HB.out | apply below_alloc | apply pw_below_drewN | apply below_drew1) | exact HB.out)⟩⟩
    ·
     rw [if_neg c6] at H
     exact absurd H (by simp)
   ·
    rw [if_neg c5] at H
    exact absurd H (by simp)
  ·
   rw [if_neg c4] at H
   have c4b0 : decide (0 ≤ t102) = false := decide_eq_false c4
   clear c4
   (first | rw [c4b0] | (simp only [i64_w, i32_w]; rw [c4b0]) | skip)
   have H' := Aside0.mk H
   clear H
   go_wp2
   repeat (go_quiet (fail); try go_wp2)
   go_meet
   case rel => exact ⟨_, (false), (by first | rfl | (simp; done) | (simp [*]; done)), H', ⟨by first | omega | exact Nat.le_refl _⟩, ⟨by repeat (first | (with_reducible first | exact HB.out | apply below_alloc | apply pw_below_drewN | apply below_drew1) | exact HB.out)⟩⟩
 case rest =>
  clear HC3
  try clear c1
  try clear p2
  try clear c4
  try clear c4b0
  try clear c5
  try clear c5b0
  try clear c5b1
  try clear c6
  try clear c6b0
  try clear c6b1
  try clear p6
  try clear c8
  try clear c10
  try clear c10b0
  try clear c10b1
  try clear c11
  try clear c11b0
  try clear c11b1
  try clear c12
  obtain ⟨kq, x22_2, rfl, HA, HJ2, HB⟩ := hcut
  cases kq with
  | zero => exact absurd HA.out (by simp [spec_RefNameGroups.j0])
  | succ kj2 =>
   have H := HA.out
   clear HA
   simp only [spec_RefNameGroups.j0] at H
   by_cases c16 : x22_2 = true
   ·
    subst c16
    have H1 : (if 0 ≤ t102 then (if t102 ≤ (a0.size : Int) then (if 0 ≤ (wrap64 (t102 + 1)) then (if (wrap64 (t102 + 1)) ≤ (a0.size : Int) then (some (a0.extract 0 (t102 : Int).toNat, a0.extract ((wrap64 (t102 + 1)) : Int).toNat a0.size, true)) else (none)) else (none)) else (none)) else (none)) = some (r1, r2, r3) := by rw [if_pos rfl] at H; exact H
    clear H
    have H := H1
    clear H1
    by_cases c17 : 0 ≤ t102
    ·
     rw [if_pos c17] at H
     have c17b0 := eq_true c17
     have c17b1 : decide (0 ≤ t102) = true := decide_eq_true c17
     clear c17
     by_cases c18 : t102 ≤ (a0.size : Int)
     ·
      rw [if_pos c18] at H
      have c18b0 := eq_true c18
      have c18b1 : decide (t102 ≤ (a0.size : Int)) = true := decide_eq_true c18
      clear c18
      obtain ⟨ji19, hji19⟩ : ∃ j_ : Int, (wrap64 (t102 + 1)) = j_ := ⟨_, rfl⟩
      replace H : (if 0 ≤ (ji19) then (if (ji19) ≤ (a0.size : Int) then (some (a0.extract 0 (t102 : Int).toNat, a0.extract ((ji19) : Int).toNat a0.size, true)) else (none)) else (none)) = some (r1, r2, r3) := by first | (rw [hji19] at H; exact H) | (simp only [hji19] at H ⊢; exact H)
      have hji19w : (IntKind.i64.wrap (t102 + 1)) = ji19 := (i64_w _).trans hji19
      by_cases c20 : 0 ≤ (ji19)
      ·
       rw [if_pos c20] at H
       have c20b0 := eq_true c20
       have c20b1 : decide (0 ≤ (ji19)) = true := decide_eq_true c20
       clear c20
       by_cases c21 : (ji19) ≤ (a0.size : Int)
       ·
        rw [if_pos c21] at H
        have c21b0 := eq_true c21
        have c21b1 : decide ((ji19) ≤ (a0.size : Int)) = true := decide_eq_true c21
        clear c21
        simp only [Option.some.injEq, Prod.mk.injEq] at H
        obtain ⟨rfl, rfl, rfl⟩ := H
        go_wp2
        repeat (go_quiet (fail); try go_wp2)
        go_ret3
        exact ⟨by first | rfl | (simp [errW_none, errW_some] <;> rfl) | (simp only [← hji19]; first | rfl | (simp [errW_none, errW_some] <;> rfl)) | (simp [*, errW_none, errW_some] <;> rfl) | (simp [bneNil]; done), by repeat (first | (with_reducible first | exact HB.out | apply below_alloc | apply pw_below_drewN | apply below_drew1) | exact HB.out)⟩
       ·
        rw [if_neg c21] at H
        exact absurd H (by simp)
      ·
       rw [if_neg c20] at H
       exact absurd H (by simp)
     ·
      rw [if_neg c18] at H
      exact absurd H (by simp)
    ·
     rw [if_neg c17] at H
     exact absurd H (by simp)
   ·
    replace c16 := Bool.eq_false_iff.mpr c16
    subst c16
    have H1 : ((spec_RefPath.f a0).bind fun t105 => (if t105 = true then (some ((⟨#[]⟩ : ByteArray), a0, true)) else (some ((⟨#[]⟩ : ByteArray), (⟨#[]⟩ : ByteArray), false)))) = some (r1, r2, r3) := by rw [if_neg (show ¬ (false = true) by decide)] at H; exact H
    clear H
    have H := H1
    clear H1
    replace H := Option.bind_eq_some_iff.mp H
    obtain ⟨t105, A220, H⟩ := H
    replace H : (if t105 = true then (some ((⟨#[]⟩ : ByteArray), a0, true)) else (some ((⟨#[]⟩ : ByteArray), (⟨#[]⟩ : ByteArray), false))) = some (r1, r2, r3) := H
    have A22 := Aside0.mk A220
    clear A220
    by_cases c23 : t105 = true
    ·
     subst c23
     have H1 : (some ((⟨#[]⟩ : ByteArray), a0, true)) = some (r1, r2, r3) := by rw [if_pos rfl] at H; exact H
     clear H
     have H := H1
     clear H1
     simp only [Option.some.injEq, Prod.mk.injEq] at H
     obtain ⟨rfl, rfl, rfl⟩ := H
     go_wp2_with (first | (go_at_call 22; (with_reducible refine (spec_RefPath.calls a0 true _ A22.out).mono ?_); rintro e w24 ⟨rfl, hb⟩; have n0_ := Aside0.mk (below_step (by repeat (first | (with_reducible first | exact HB.out | apply below_alloc | apply pw_below_drewN | apply below_drew1) | exact HB.out)) hb); clear HB; have HB := n0_; clear n0_; (try clear hb); (try clear hb2); (try clear hk); (try clear hi)))
     repeat (go_quiet (first | (go_at_call 22; (with_reducible refine (spec_RefPath.calls a0 true _ A22.out).mono ?_); rintro e w24 ⟨rfl, hb⟩; have n0_ := Aside0.mk (below_step (by repeat (first | (with_reducible first | exact HB.out | apply below_alloc | apply pw_below_drewN | apply below_drew1) | exact HB.out)) hb); clear HB; have HB := n0_; clear n0_; (try clear hb); (try clear hb2); (try clear hk); (try clear hi))); try go_wp2_with (first | (go_at_call 22; (with_reducible refine (spec_RefPath.calls a0 true _ A22.out).mono ?_); rintro e w24 ⟨rfl, hb⟩; have n0_ := Aside0.mk (below_step (by repeat (first | (with_reducible first | exact HB.out | apply below_alloc | apply pw_below_drewN | apply below_drew1) | exact HB.out)) hb); clear HB; have HB := n0_; clear n0_; (try clear hb); (try clear hb2); (try clear hk); (try clear hi))))
     go_ret3
     exact ⟨by first | rfl | (simp [errW_none, errW_some] <;> rfl) | (simp [*, errW_none, errW_some] <;> rfl) | (simp [bneNil]; done), by repeat (first | (with_reducible first | exact HB.out | apply below_alloc | apply pw_below_drewN | apply below_drew1) | exact HB.out)⟩
    ·
     replace c23 := Bool.eq_false_iff.mpr c23
     subst c23
     have H1 : (some ((⟨#[]⟩ : ByteArray), (⟨#[]⟩ : ByteArray), false)) = some (r1, r2, r3) := by rw [if_neg (show ¬ (false = true) by decide)] at H; exact H
     clear H
     have H := H1
     clear H1
     simp only [Option.some.injEq, Prod.mk.injEq] at H
     obtain ⟨rfl, rfl, rfl⟩ := H
     go_wp2_with (first | (go_at_call 22; (with_reducible refine (spec_RefPath.calls a0 false _ A22.out).mono ?_); rintro e w25 ⟨rfl, hb⟩; have n0_ := Aside0.mk (below_step (by repeat (first | (with_reducible first | exact HB.out | apply below_alloc | apply pw_below_drewN | apply below_drew1) | exact HB.out)) hb); clear HB; have HB := n0_; clear n0_; (try clear hb); (try clear hb2); (try clear hk); (try clear hi)))
     repeat (go_quiet (first | (go_at_call 22; (with_reducible refine (spec_RefPath.calls a0 false _ A22.out).mono ?_); rintro e w25 ⟨rfl, hb⟩; have n0_ := Aside0.mk (below_step (by repeat (first | (with_reducible first | exact HB.out | apply below_alloc | apply pw_below_drewN | apply below_drew1) | exact HB.out)) hb); clear HB; have HB := n0_; clear n0_; (try clear hb); (try clear hb2); (try clear hk); (try clear hi))); try go_wp2_with (first | (go_at_call 22; (with_reducible refine (spec_RefPath.calls a0 false _ A22.out).mono ?_); rintro e w25 ⟨rfl, hb⟩; have n0_ := Aside0.mk (below_step (by repeat (first | (with_reducible first | exact HB.out | apply below_alloc | apply pw_below_drewN | apply below_drew1) | exact HB.out)) hb); clear HB; have HB := n0_; clear n0_; (try clear hb); (try clear hb2); (try clear hk); (try clear hi))))
     go_ret3
     exact ⟨by first | rfl | (simp [errW_none, errW_some] <;> rfl) | (simp [*, errW_none, errW_some] <;> rfl) | (simp [bneNil]; done), by repeat (first | (with_reducible first | exact HB.out | apply below_alloc | apply pw_below_drewN | apply below_drew1) | exact HB.out)⟩

end Go.Proofs.Ytmlcpnehihmhaaa.PX
namespace Go.Proofs.Ytmlcpnehihmhaaa.PX

open Go.RowKit Go.Proofs.YtmlcpnehihmhaaaW.PrintWords Go.Proofs.YtmlcpnehihmhaaaW.PrintLast Go.Proofs.YtmlcpnehihmhaaaW.PrintMore

attribute [local go_sem] max2_int min2_int max_two min_two max_three min_three max_four min_four   -- for this text's walks alone

set_option linter.unusedVariables false

set_option linter.unusedSimpArgs false

def spec_RefIsName.f (k : Nat) (a0 : ByteArray) : Option (Bool) := (spec_RefNameGroups.f k a0).bind fun bt106 => (some bt106.2.2)

set_option maxHeartbeats 80000000 in
set_option maxRecDepth 100000 in
theorem spec_RefIsName.calls (k : Nat) (a0 : ByteArray) (r : Bool) (w : World) (h : spec_RefIsName.f k a0 = some r) :
    Calls Try.prog 18 #[.string a0] w fun e w' => e = .returned (.bool r) ∧ Below w.heap.size w w' := by
  have HB := Aside0.mk (Below.refl w.heap.size w)
  have H : ((spec_RefNameGroups.f k a0).bind fun bt106 => (some bt106.2.2)) = some r := h
  clear h
  replace H := Option.bind_eq_some_iff.mp H
  obtain ⟨⟨t106, t107, t108⟩, A20, H⟩ := H
  replace H : (some t108) = some r := H
  have A2 := Aside0.mk A20
  clear A20
  obtain rfl := Option.some.inj H
  go_enter Try.func18, Try.ntmps18
  go_wp2_with (first | ((with_reducible refine gate_callee (f := 12) rfl ?_); refine goesL_ (some 8) rfl rfl Try.func12 (by kernel_rfl) rfl #[.string a0] rfl (by (try simp only [List.map_toArray, List.map_cons, List.map_nil]); first | done | rfl | (simp only [List.length_drop, List.length_take]; rfl)) ?_; (with_reducible refine (spec_RefNameGroups.calls k a0 t106 t107 t108 _ A2.out).mono ?_); rintro e w3 ⟨rfl, hb⟩; refine ⟨_, rfl, ?_⟩; have n0_ := Aside0.mk (below_step (by repeat (first | (with_reducible first | exact HB.out | apply below_alloc | apply pw_below_drewN | apply below_drew1) | exact HB.out)) hb); clear HB; have HB := n0_; clear n0_; (try clear hb); (try clear hb2); (try clear hk); (try clear hi)))
  go_ret
  exact ⟨by first | rfl | (simp [errW_none, errW_some] <;> rfl) | (simp [*, errW_none, errW_some] <;> rfl) | (simp [bneNil]; done), by repeat (first | (with_reducible first | exact HB.out | apply below_alloc | apply pw_below_drewN | apply below_drew1) | exact HB.out)⟩

end Go.Proofs.Ytmlcpnehihmhaaa.PX
namespace Go.Proofs.Ytmlcpnehihmhaaa.PX

open Go.RowKit Go.Proofs.YtmlcpnehihmhaaaW.PrintWords Go.Proofs.YtmlcpnehihmhaaaW.PrintLast Go.Proofs.YtmlcpnehihmhaaaW.PrintMore

attribute [local go_sem] max2_int min2_int max_two min_two max_three min_three max_four min_four   -- for this text's walks alone

set_option linter.unusedVariables false

set_option linter.unusedSimpArgs false

mutual
def spec_RefGroups.j0 : Nat → ByteArray → ByteArray → Option (ByteArray × ByteArray × ByteArray × Bool)
  | 0, _, _ => none
  | k + 1, x0, x4 => (spec_RefIsName.f k x0).bind fun t111 => (if t111 = true then (some (x0, (⟨#[]⟩ : ByteArray), x4, true)) else (spec_RefGroups.l0 k x0 x4 0))
def spec_RefGroups.l0 : Nat → ByteArray → ByteArray → Int → Option (ByteArray × ByteArray × ByteArray × Bool)
  | 0, _, _, _ => none
  | k + 1, x0, x4, x7 => if x7 < (x0.size : Int) then (if 0 ≤ x7 then (if (bt x0 x7) = 58 then (if 0 ≤ (wrap64 (x7 + 1)) then (if (wrap64 (x7 + 1)) ≤ (x0.size : Int) then ((spec_RefIsTag.f (x0.extract ((wrap64 (x7 + 1)) : Int).toNat x0.size)).bind fun t112 => (if t112 = true then (if x7 ≤ (x0.size : Int) then ((spec_RefIsName.f k (x0.extract 0 (x7 : Int).toNat)).bind fun t113 => (if t113 = true then (some (x0.extract 0 (x7 : Int).toNat, x0.extract ((wrap64 (x7 + 1)) : Int).toNat x0.size, x4, true)) else (spec_RefGroups.l0 k x0 x4 (wrap64 (x7 + 1))))) else (none)) else (spec_RefGroups.l0 k x0 x4 (wrap64 (x7 + 1))))) else (none)) else (none)) else (spec_RefGroups.l0 k x0 x4 (wrap64 (x7 + 1)))) else (none)) else (some ((⟨#[]⟩ : ByteArray), (⟨#[]⟩ : ByteArray), (⟨#[]⟩ : ByteArray), false))
end

def spec_RefGroups.f (k : Nat) (a0 : ByteArray) : Option (ByteArray × ByteArray × ByteArray × Bool) := (spec_RefFirst.f k a0 64).bind fun t109 => (if t109 ≥ 0 then (if 0 ≤ t109 then (if t109 ≤ (a0.size : Int) then (if 0 ≤ (wrap64 (t109 + 1)) then (if (wrap64 (t109 + 1)) ≤ (a0.size : Int) then ((spec_RefIsDigest.f (a0.extract ((wrap64 (t109 + 1)) : Int).toNat a0.size)).bind fun t110 => (if t110 = true then (spec_RefGroups.j0 k (a0.extract 0 (t109 : Int).toNat) (a0.extract ((wrap64 (t109 + 1)) : Int).toNat a0.size)) else (some ((⟨#[]⟩ : ByteArray), (⟨#[]⟩ : ByteArray), (⟨#[]⟩ : ByteArray), false)))) else (none)) else (none)) else (none)) else (none)) else (spec_RefGroups.j0 k a0 (⟨#[]⟩ : ByteArray)))

set_option maxHeartbeats 80000000 in
set_option maxRecDepth 100000 in
theorem spec_RefGroups.calls (k : Nat) (a0 : ByteArray) (r1 : ByteArray) (r2 : ByteArray) (r3 : ByteArray) (r4 : Bool) (w : World) (h : spec_RefGroups.f k a0 = some (r1, r2, r3, r4)) :
  Calls Try.prog 10 #[.string a0] w fun e w' => e = .returned (.tuple #[.string r1, .string r2, .string r3, .bool r4]) ∧ Below w.heap.size w w' := by
 have HB := Aside0.mk (Below.refl w.heap.size w)
 have H : ((spec_RefFirst.f k a0 64).bind fun t109 => (if t109 ≥ 0 then (if 0 ≤ t109 then (if t109 ≤ (a0.size : Int) then (if 0 ≤ (wrap64 (t109 + 1)) then (if (wrap64 (t109 + 1)) ≤ (a0.size : Int) then ((spec_RefIsDigest.f (a0.extract ((wrap64 (t109 + 1)) : Int).toNat a0.size)).bind fun t110 => (if t110 = true then (spec_RefGroups.j0 k (a0.extract 0 (t109 : Int).toNat) (a0.extract ((wrap64 (t109 + 1)) : Int).toNat a0.size)) else (some ((⟨#[]⟩ : ByteArray), (⟨#[]⟩ : ByteArray), (⟨#[]⟩ : ByteArray), false)))) else (none)) else (none)) else (none)) else (none)) else (spec_RefGroups.j0 k a0 (⟨#[]⟩ : ByteArray)))) = some (r1, r2, r3, r4) := h
 clear h
 replace H := Option.bind_eq_some_iff.mp H
 obtain ⟨t109, A20, H⟩ := H
 replace H : (if t109 ≥ 0 then (if 0 ≤ t109 then (if t109 ≤ (a0.size : Int) then (if 0 ≤ (wrap64 (t109 + 1)) then (if (wrap64 (t109 + 1)) ≤ (a0.size : Int) then ((spec_RefIsDigest.f (a0.extract ((wrap64 (t109 + 1)) : Int).toNat a0.size)).bind fun t110 => (if t110 = true then (spec_RefGroups.j0 k (a0.extract 0 (t109 : Int).toNat) (a0.extract ((wrap64 (t109 + 1)) : Int).toNat a0.size)) else (some ((⟨#[]⟩ : ByteArray), (⟨#[]⟩ : ByteArray), (⟨#[]⟩ : ByteArray), false)))) else (none)) else (none)) else (none)) else (none)) else (spec_RefGroups.j0 k a0 (⟨#[]⟩ : ByteArray))) = some (r1, r2, r3, r4) := H
 have A2 := Aside0.mk A20
 clear A20
 have HC3 := Aside0.mk H
 clear H
 go_enter Try.func10, Try.ntmps10
 go_upto_if 11 with (first | (go_at_call 16; (with_reducible refine (spec_RefFirst.calls k a0 64 t109 _ A2.out).mono ?_); rintro e w' ⟨rfl, ⟨nd, rfl⟩⟩; (try first | exact ⟨rfl, _, World.drewN_drewN _ _ _⟩ | exact ⟨rfl, _, Eq.trans (World.drewN_drewN _ _ _) (congrArg (World.drewN _) (Nat.add_assoc _ _ _))⟩)))
 repeat (go_quiet (first | (go_at_call 16; (with_reducible refine (spec_RefFirst.calls k a0 64 t109 _ A2.out).mono ?_); rintro e w' ⟨rfl, ⟨nd, rfl⟩⟩; (try first | exact ⟨rfl, _, World.drewN_drewN _ _ _⟩ | exact ⟨rfl, _, Eq.trans (World.drewN_drewN _ _ _) (congrArg (World.drewN _) (Nat.add_assoc _ _ _))⟩))); go_upto_if 11 with (first | (go_at_call 16; (with_reducible refine (spec_RefFirst.calls k a0 64 t109 _ A2.out).mono ?_); rintro e w' ⟨rfl, ⟨nd, rfl⟩⟩; (try first | exact ⟨rfl, _, World.drewN_drewN _ _ _⟩ | exact ⟨rfl, _, Eq.trans (World.drewN_drewN _ _ _) (congrArg (World.drewN _) (Nat.add_assoc _ _ _))⟩))))
 (try simp only [Act.put, List.setIfInBounds_toArray, List.set_cons_zero, List.set_cons_succ])
 go_cut [0, 4] (fun v0 v4 wc => ∃ (kq : Nat) (x0_2 : ByteArray) (x4_2 : ByteArray), v0 = .string x0_2 ∧ v4 = .string x4_2 ∧ Aside0 (spec_RefGroups.j0 kq x0_2 x4_2 = some (r1, r2, r3, r4)) ∧ Aside0 (kq ≤ k) ∧ Aside0 (Below w.heap.size w wc))
 case first =>
  have H := HC3.out
  clear HC3
  by_cases c4 : t109 ≥ 0
  ·
   rw [if_pos c4] at H
   have c4b0 : decide (0 ≤ t109) = true := decide_eq_true c4
   clear c4
   (first | rw [c4b0] | (simp only [i64_w, i32_w]; rw [c4b0]) | skip)
   by_cases c5 : 0 ≤ t109
   ·
    rw [if_pos c5] at H
    have c5b0 := eq_true c5
    have c5b1 : decide (0 ≤ t109) = true := decide_eq_true c5
    clear c5
    by_cases c6 : t109 ≤ (a0.size : Int)
    ·
     rw [if_pos c6] at H
     have c6b0 := eq_true c6
     have c6b1 : decide (t109 ≤ (a0.size : Int)) = true := decide_eq_true c6
     clear c6
     obtain ⟨ji7, hji7⟩ : ∃ j_ : Int, (wrap64 (t109 + 1)) = j_ := ⟨_, rfl⟩
     replace H : (if 0 ≤ (ji7) then (if (ji7) ≤ (a0.size : Int) then ((spec_RefIsDigest.f (a0.extract ((ji7) : Int).toNat a0.size)).bind fun t110 => (if t110 = true then (spec_RefGroups.j0 k (a0.extract 0 (t109 : Int).toNat) (a0.extract ((ji7) : Int).toNat a0.size)) else (some ((⟨#[]⟩ : ByteArray), (⟨#[]⟩ : ByteArray), (⟨#[]⟩ : ByteArray), false)))) else (none)) else (none)) = some (r1, r2, r3, r4) := by first | (rw [hji7] at H; exact H) | (simp only [hji7] at H ⊢; exact H)
     have hji7w : (IntKind.i64.wrap (t109 + 1)) = ji7 := (i64_w _).trans hji7
     by_cases c8 : 0 ≤ (ji7)
     ·
      rw [if_pos c8] at H
      have c8b0 := eq_true c8
      have c8b1 : decide (0 ≤ (ji7)) = true := decide_eq_true c8
      clear c8
      by_cases c9 : (ji7) ≤ (a0.size : Int)
      ·
       rw [if_pos c9] at H
       have c9b0 := eq_true c9
       have c9b1 : decide ((ji7) ≤ (a0.size : Int)) = true := decide_eq_true c9
       clear c9
       replace H := Option.bind_eq_some_iff.mp H
       obtain ⟨t110, A100, H⟩ := H
       replace H : (if t110 = true then (spec_RefGroups.j0 k (a0.extract 0 (t109 : Int).toNat) (a0.extract ((ji7) : Int).toNat a0.size)) else (some ((⟨#[]⟩ : ByteArray), (⟨#[]⟩ : ByteArray), (⟨#[]⟩ : ByteArray), false))) = some (r1, r2, r3, r4) := H
       have A10 := Aside0.mk A100
       clear A100
       by_cases c11 : t110 = true
       ·
        subst c11
        have H1 : (spec_RefGroups.j0 k (a0.extract 0 (t109 : Int).toNat) (a0.extract ((ji7) : Int).toNat a0.size)) = some (r1, r2, r3, r4) := by rw [if_pos rfl] at H; exact H
        clear H
        have H := H1
        clear H1
        have H' := Aside0.mk H
        clear H
        go_wp2_with (first | (go_at_call 17; (with_reducible refine (spec_RefIsDigest.calls (a0.extract ((ji7) : Int).toNat a0.size) true _ A10.out).mono ?_); rintro e w12 ⟨rfl, hb⟩; have n0_ := Aside0.mk (below_step (by repeat (first | (with_reducible first | exact HB.out | apply below_alloc | apply pw_below_drewN | apply below_drew1) | exact HB.out)) hb); clear HB; have HB := n0_; clear n0_; (try clear hb); (try clear hb2); (try clear hk); (try clear hi)))
        repeat (go_quiet (first | (go_at_call 17; (with_reducible refine (spec_RefIsDigest.calls (a0.extract ((ji7) : Int).toNat a0.size) true _ A10.out).mono ?_); rintro e w12 ⟨rfl, hb⟩; have n0_ := Aside0.mk (below_step (by repeat (first | (with_reducible first | exact HB.out | apply below_alloc | apply pw_below_drewN | apply below_drew1) | exact HB.out)) hb); clear HB; have HB := n0_; clear n0_; (try clear hb); (try clear hb2); (try clear hk); (try clear hi))); try go_wp2_with (first | (go_at_call 17; (with_reducible refine (spec_RefIsDigest.calls (a0.extract ((ji7) : Int).toNat a0.size) true _ A10.out).mono ?_); rintro e w12 ⟨rfl, hb⟩; have n0_ := Aside0.mk (below_step (by repeat (first | (with_reducible first | exact HB.out | apply below_alloc | apply pw_below_drewN | apply below_drew1) | exact HB.out)) hb); clear HB; have HB := n0_; clear n0_; (try clear hb); (try clear hb2); (try clear hk); (try clear hi))))
        go_meet
        case rel => exact ⟨_, (a0.extract 0 (t109 : Int).toNat), (a0.extract ((ji7) : Int).toNat a0.size), (by first | rfl | (simp; done) | (simp [*]; done)), (by first | rfl | (simp; done) | (simp only [← hji7] <;> (first | rfl | simp)) | (simp [*]; done)), H', ⟨by first | omega | exact Nat.le_refl _⟩, ⟨by repeat (first | (with_reducible first | exact HB.out | apply below_alloc | apply pw_below_drewN | apply below_drew1) | exact HB.out)⟩⟩
       ·
        replace c11 := Bool.eq_false_iff.mpr c11
        subst c11
        have H1 : (some ((⟨#[]⟩ : ByteArray), (⟨#[]⟩ : ByteArray), (⟨#[]⟩ : ByteArray), false)) = some (r1, r2, r3, r4) := by rw [if_neg (show ¬ (false = true) by decide)] at H; exact H
        clear H
        have H := H1
        clear H1
        simp only [Option.some.injEq, Prod.mk.injEq] at H
        obtain ⟨rfl, rfl, rfl, rfl⟩ := H
        go_wp2_with (first | (go_at_call 17; (with_reducible refine (spec_RefIsDigest.calls (a0.extract ((ji7) : Int).toNat a0.size) false _ A10.out).mono ?_); rintro e w13 ⟨rfl, hb⟩; have n0_ := Aside0.mk (below_step (by repeat (first | (with_reducible first | exact HB.out | apply below_alloc | apply pw_below_drewN | apply below_drew1) | exact HB.out)) hb); clear HB; have HB := n0_; clear n0_; (try clear hb); (try clear hb2); (try clear hk); (try clear hi)))
        repeat (go_quiet (first | (go_at_call 17; (with_reducible refine (spec_RefIsDigest.calls (a0.extract ((ji7) : Int).toNat a0.size) false _ A10.out).mono ?_); rintro e w13 ⟨rfl, hb⟩; have n0_ := Aside0.mk (below_step (by repeat (first | (with_reducible first | exact HB.out | apply below_alloc | apply pw_below_drewN | apply below_drew1) | exact HB.out)) hb); clear HB; have HB := n0_; clear n0_; (try clear hb); (try clear hb2); (try clear hk); (try clear hi))); try go_wp2_with (first | (go_at_call 17; (with_reducible refine (spec_RefIsDigest.calls (a0.extract ((ji7) : Int).toNat a0.size) false _ A10.out).mono ?_); rintro e w13 ⟨rfl, hb⟩; have n0_ := Aside0.mk (below_step (by repeat (first | (with_reducible first | exact HB.out | apply below_alloc | apply pw_below_drewN | apply below_drew1) | exact HB.out)) hb); clear HB; have HB := n0_; clear n0_; (try clear hb); (try clear hb2); (try clear hk); (try clear hi))))
        refine bodyPost_ret (results_list (rs := [.tmp 2, .tmp 3, .tmp 4, .tmp 5]) rfl (by simp) (.tmp (.tmp (.tmp (.tmp .nil))))) rfl ?_
        exact ⟨by first | rfl | (simp [errW_none, errW_some] <;> rfl) | (simp only [← hji7]; first | rfl | (simp [errW_none, errW_some] <;> rfl)) | (simp [*, errW_none, errW_some] <;> rfl) | (simp [bneNil]; done), by repeat (first | (with_reducible first | exact HB.out | apply below_alloc | apply pw_below_drewN | apply below_drew1) | exact HB.out)⟩
      ·
       rw [if_neg c9] at H
       exact absurd H (by simp)
     ·
      rw [if_neg c8] at H
      exact absurd H (by simp)
    ·
     rw [if_neg c6] at H
     exact absurd H (by simp)
   ·
    rw [if_neg c5] at H
    exact absurd H (by simp)
  ·
   rw [if_neg c4] at H
   have c4b0 : decide (0 ≤ t109) = false := decide_eq_false c4
   clear c4
   (first | rw [c4b0] | (simp only [i64_w, i32_w]; rw [c4b0]) | skip)
   have H' := Aside0.mk H
   clear H
   go_wp2
   repeat (go_quiet (fail); try go_wp2)
   go_meet
   case rel => exact ⟨_, (a0), ((⟨#[]⟩ : ByteArray)), (by first | rfl | (simp; done) | (simp [*]; done)), (by first | rfl | (simp; done) | (simp [*]; done)), H', ⟨by first | omega | exact Nat.le_refl _⟩, ⟨by repeat (first | (with_reducible first | exact HB.out | apply below_alloc | apply pw_below_drewN | apply below_drew1) | exact HB.out)⟩⟩
 case rest =>
  clear HC3
  try clear c1
  try clear p2
  try clear c4
  try clear c4b0
  try clear c5
  try clear c5b0
  try clear c5b1
  try clear c6
  try clear c6b0
  try clear c6b1
  try clear p6
  try clear c8
  try clear c8b0
  try clear c8b1
  try clear c9
  try clear c9b0
  try clear c9b1
  try clear c10
  try clear c11
  obtain ⟨kq, x0_2, x4_2, rfl, rfl, HA, HJ2, HB⟩ := hcut
  cases kq with
  | zero => exact absurd HA.out (by simp [spec_RefGroups.j0])
  | succ kj2 =>
   have H := HA.out
   clear HA
   simp only [spec_RefGroups.j0] at H
   replace H := Option.bind_eq_some_iff.mp H
   obtain ⟨t111, A140, H⟩ := H
   replace H : (if t111 = true then (some (x0_2, (⟨#[]⟩ : ByteArray), x4_2, true)) else (spec_RefGroups.l0 kj2 x0_2 x4_2 0)) = some (r1, r2, r3, r4) := H
   have A14 := Aside0.mk A140
   clear A140
   by_cases c15 : t111 = true
   ·
    subst c15
    have H1 : (some (x0_2, (⟨#[]⟩ : ByteArray), x4_2, true)) = some (r1, r2, r3, r4) := by rw [if_pos rfl] at H; exact H
    clear H
    have H := H1
    clear H1
    simp only [Option.some.injEq, Prod.mk.injEq] at H
    obtain ⟨rfl, rfl, rfl, rfl⟩ := H
    go_wp2_with (first | (go_at_call 18; (with_reducible refine (spec_RefIsName.calls kj2 x0_2 true _ A14.out).mono ?_); rintro e w16 ⟨rfl, hb⟩; have n0_ := Aside0.mk (below_step (by repeat (first | (with_reducible first | exact HB.out | apply below_alloc | apply pw_below_drewN | apply below_drew1) | exact HB.out)) hb); clear HB; have HB := n0_; clear n0_; (try clear hb); (try clear hb2); (try clear hk); (try clear hi)))
    repeat (go_quiet (first | (go_at_call 18; (with_reducible refine (spec_RefIsName.calls kj2 x0_2 true _ A14.out).mono ?_); rintro e w16 ⟨rfl, hb⟩; have n0_ := Aside0.mk (below_step (by repeat (first | (with_reducible first | exact HB.out | apply below_alloc | apply pw_below_drewN | apply below_drew1) | exact HB.out)) hb); clear HB; have HB := n0_; clear n0_; (try clear hb); (try clear hb2); (try clear hk); (try clear hi))); try go_wp2_with (first | (go_at_call 18; (with_reducible refine (spec_RefIsName.calls kj2 x0_2 true _ A14.out).mono ?_); rintro e w16 ⟨rfl, hb⟩; have n0_ := Aside0.mk (below_step (by repeat (first | (with_reducible first | exact HB.out | apply below_alloc | apply pw_below_drewN | apply below_drew1) | exact HB.out)) hb); clear HB; have HB := n0_; clear n0_; (try clear hb); (try clear hb2); (try clear hk); (try clear hi))))
    refine bodyPost_ret (results_list (rs := [.tmp 2, .tmp 3, .tmp 4, .tmp 5]) rfl (by simp) (.tmp (.tmp (.tmp (.tmp .nil))))) rfl ?_
    exact ⟨by first | rfl | (simp [errW_none, errW_some] <;> rfl) | (simp [*, errW_none, errW_some] <;> rfl) | (simp [bneNil]; done), by repeat (first | (with_reducible first | exact HB.out | apply below_alloc | apply pw_below_drewN | apply below_drew1) | exact HB.out)⟩
   ·
    replace c15 := Bool.eq_false_iff.mpr c15
    subst c15
    have H1 : (spec_RefGroups.l0 kj2 x0_2 x4_2 0) = some (r1, r2, r3, r4) := by rw [if_neg (show ¬ (false = true) by decide)] at H; exact H
    clear H
    have H := H1
    clear H1
    have H' := Aside0.mk H
    clear H
    go_wp2_with (first | (go_at_call 18; (with_reducible refine (spec_RefIsName.calls kj2 x0_2 false _ A14.out).mono ?_); rintro e w17 ⟨rfl, hb⟩; have n0_ := Aside0.mk (below_step (by repeat (first | (with_reducible first | exact HB.out | apply below_alloc | apply pw_below_drewN | apply below_drew1) | exact HB.out)) hb); clear HB; have HB := n0_; clear n0_; (try clear hb); (try clear hb2); (try clear hk); (try clear hi)))
    repeat (go_quiet (first | (go_at_call 18; (with_reducible refine (spec_RefIsName.calls kj2 x0_2 false _ A14.out).mono ?_); rintro e w17 ⟨rfl, hb⟩; have n0_ := Aside0.mk (below_step (by repeat (first | (with_reducible first | exact HB.out | apply below_alloc | apply pw_below_drewN | apply below_drew1) | exact HB.out)) hb); clear HB; have HB := n0_; clear n0_; (try clear hb); (try clear hb2); (try clear hk); (try clear hi))); try go_wp2_with (first | (go_at_call 18; (with_reducible refine (spec_RefIsName.calls kj2 x0_2 false _ A14.out).mono ?_); rintro e w17 ⟨rfl, hb⟩; have n0_ := Aside0.mk (below_step (by repeat (first | (with_reducible first | exact HB.out | apply below_alloc | apply pw_below_drewN | apply below_drew1) | exact HB.out)) hb); clear HB; have HB := n0_; clear n0_; (try clear hb); (try clear hb2); (try clear hk); (try clear hi))))
    go_loopg [4, 7] kj2 (fun kq v4 v7 w' => ∃ (x4_2 : ByteArray) (x7_2 : Int), v4 = .string x4_2 ∧ v7 = .int .i64 x7_2 ∧ Aside0 (spec_RefGroups.l0 kq x0_2 x4_2 x7_2 = some (r1, r2, r3, r4)) ∧ Aside0 (kq ≤ kj2) ∧ Aside0 (Below w.heap.size w w'))
    case atStart => exact ⟨(x4_2), (0), (by first | rfl | (simp; done) | (simp [*]; done)), (by first | rfl | (simp; done) | (simp [*]; done)), H', ⟨Nat.le_refl _⟩, ⟨by repeat (first | (with_reducible first | exact HB.out | apply below_alloc | apply pw_below_drewN | apply below_drew1) | exact HB.out)⟩⟩
    case round =>
     clear H'
     try clear c1
     try clear p2
     try clear c4
     try clear c4b0
     try clear c5
     try clear c5b0
     try clear c5b1
     try clear c6
     try clear c6b0
     try clear c6b1
     try clear p6
     try clear c8
     try clear c8b0
     try clear c8b1
     try clear c9
     try clear c9b0
     try clear c9b1
     try clear c10
     try clear c11
     try clear c15
     try clear p2
     try clear p6
     obtain ⟨x4_2, x7_2, rfl, rfl, HA, HK2, HB⟩ := hrel
     cases gk with
     | zero => exact absurd HA.out (by simp [spec_RefGroups.l0])
     | succ k2 =>
      have H := HA.out
      clear HA
      simp only [spec_RefGroups.l0] at H
      by_cases c18 : x7_2 < (x0_2.size : Int)
      ·
       rw [if_pos c18] at H
       have c18b0 : decide (x7_2 < (x0_2.size : Int)) = true := decide_eq_true c18
       clear c18
       by_cases c19 : 0 ≤ x7_2
       ·
        rw [if_pos c19] at H
        have c19b0 : decide (0 ≤ x7_2) = true := decide_eq_true c19
        clear c19
        by_cases c21 : (bt x0_2 x7_2) = 58
        ·
         rw [if_pos c21] at H
         have c21b0 : ((bt x0_2 x7_2) == 58) = true := beq_iff_eq.mpr c21
         have c21b1 : ((bt x0_2 x7_2) != 58) = false := bne_eq_false_iff_eq.mpr c21
         clear c21
         obtain ⟨ji22, hji22⟩ : ∃ j_ : Int, (wrap64 (x7_2 + 1)) = j_ := ⟨_, rfl⟩
         replace H : (if 0 ≤ (ji22) then (if (ji22) ≤ (x0_2.size : Int) then ((spec_RefIsTag.f (x0_2.extract ((ji22) : Int).toNat x0_2.size)).bind fun t112 => (if t112 = true then (if x7_2 ≤ (x0_2.size : Int) then ((spec_RefIsName.f k2 (x0_2.extract 0 (x7_2 : Int).toNat)).bind fun t113 => (if t113 = true then (some (x0_2.extract 0 (x7_2 : Int).toNat, x0_2.extract ((ji22) : Int).toNat x0_2.size, x4_2, true)) else (spec_RefGroups.l0 k2 x0_2 x4_2 ji22))) else (none)) else (spec_RefGroups.l0 k2 x0_2 x4_2 ji22))) else (none)) else (none)) = some (r1, r2, r3, r4) := by first | (rw [hji22] at H; exact H) | (simp only [hji22] at H ⊢; exact H)
         have hji22w : (IntKind.i64.wrap (x7_2 + 1)) = ji22 := (i64_w _).trans hji22
         by_cases c23 : 0 ≤ (ji22)
         ·
          rw [if_pos c23] at H
          have c23b0 := eq_true c23
          have c23b1 : decide (0 ≤ (ji22)) = true := decide_eq_true c23
          clear c23
          by_cases c24 : (ji22) ≤ (x0_2.size : Int)
          ·
           rw [if_pos c24] at H
           have c24b0 := eq_true c24
           have c24b1 : decide ((ji22) ≤ (x0_2.size : Int)) = true := decide_eq_true c24
           clear c24
           replace H := Option.bind_eq_some_iff.mp H
           obtain ⟨t112, A250, H⟩ := H
           replace H : (if t112 = true then (if x7_2 ≤ (x0_2.size : Int) then ((spec_RefIsName.f k2 (x0_2.extract 0 (x7_2 : Int).toNat)).bind fun t113 => (if t113 = true then (some (x0_2.extract 0 (x7_2 : Int).toNat, x0_2.extract ((ji22) : Int).toNat x0_2.size, x4_2, true)) else (spec_RefGroups.l0 k2 x0_2 x4_2 ji22))) else (none)) else (spec_RefGroups.l0 k2 x0_2 x4_2 ji22)) = some (r1, r2, r3, r4) := H
           have A25 := Aside0.mk A250
           clear A250
           by_cases c26 : t112 = true
           ·
            subst c26
            have H1 : (if x7_2 ≤ (x0_2.size : Int) then ((spec_RefIsName.f k2 (x0_2.extract 0 (x7_2 : Int).toNat)).bind fun t113 => (if t113 = true then (some (x0_2.extract 0 (x7_2 : Int).toNat, x0_2.extract ((ji22) : Int).toNat x0_2.size, x4_2, true)) else (spec_RefGroups.l0 k2 x0_2 x4_2 ji22))) else (none)) = some (r1, r2, r3, r4) := by rw [if_pos rfl] at H; exact H
            clear H
            have H := H1
            clear H1
            have c27b0 := eq_true (of_decide_eq_true (by first | (with_reducible assumption) | assumption) : 0 ≤ x7_2)
            by_cases c28 : x7_2 ≤ (x0_2.size : Int)
            ·
             rw [if_pos c28] at H
             have c28b0 := eq_true c28
             have c28b1 : decide (x7_2 ≤ (x0_2.size : Int)) = true := decide_eq_true c28
             clear c28
             replace H := Option.bind_eq_some_iff.mp H
             obtain ⟨t113, A290, H⟩ := H
             replace H : (if t113 = true then (some (x0_2.extract 0 (x7_2 : Int).toNat, x0_2.extract ((ji22) : Int).toNat x0_2.size, x4_2, true)) else (spec_RefGroups.l0 k2 x0_2 x4_2 ji22)) = some (r1, r2, r3, r4) := H
             have A29 := Aside0.mk A290
             clear A290
             by_cases c30 : t113 = true
             ·
              subst c30
              have H1 : (some (x0_2.extract 0 (x7_2 : Int).toNat, x0_2.extract ((ji22) : Int).toNat x0_2.size, x4_2, true)) = some (r1, r2, r3, r4) := by rw [if_pos rfl] at H; exact H
              clear H
              have H := H1
              clear H1
              have c31b0 := eq_true (of_decide_eq_true (by first | (with_reducible assumption) | assumption) : 0 ≤ x7_2)
              have c32b0 := eq_true (of_decide_eq_true (by first | (with_reducible assumption) | assumption) : x7_2 ≤ (x0_2.size : Int))
              have c33b0 := eq_true (of_decide_eq_true (by first | (with_reducible assumption) | assumption) : 0 ≤ (ji22))
              have c34b0 := eq_true (of_decide_eq_true (by first | (with_reducible assumption) | assumption) : (ji22) ≤ (x0_2.size : Int))
              simp only [Option.some.injEq, Prod.mk.injEq] at H
              obtain ⟨rfl, rfl, rfl, rfl⟩ := H
              have p20 : 0 ≤ (x7_2 : Int) := of_decide_eq_true (by first | (with_reducible assumption) | assumption)
              have q20 : x7_2 < (x0_2.size : Int) := of_decide_eq_true (by first | (with_reducible assumption) | assumption)
              have hx20 := bt_at x0_2 x7_2
              replace p20 := eq_true p20
              replace q20 := eq_true q20
              go_wp2_with (first | (go_at_call 19; (with_reducible refine (spec_RefIsTag.calls (x0_2.extract ((ji22) : Int).toNat x0_2.size) true _ A25.out).mono ?_); rintro e w35 ⟨rfl, hb⟩; have n0_ := Aside0.mk (below_step (by repeat (first | (with_reducible first | exact HB.out | apply below_alloc | apply pw_below_drewN | apply below_drew1) | exact HB.out)) hb); clear HB; have HB := n0_; clear n0_; (try clear hb); (try clear hb2); (try clear hk); (try clear hi)) | (go_at_call 18; (with_reducible refine (spec_RefIsName.calls k2 (x0_2.extract 0 (x7_2 : Int).toNat) true _ A29.out).mono ?_); rintro e w36 ⟨rfl, hb⟩; have n0_ := Aside0.mk (below_step (by repeat (first | (with_reducible first | exact HB.out | apply below_alloc | apply pw_below_drewN | apply below_drew1) | exact HB.out)) hb); clear HB; have HB := n0_; clear n0_; (try clear hb); (try clear hb2); (try clear hk); (try clear hi)))
              repeat (go_quiet (first | (go_at_call 19; (with_reducible refine (spec_RefIsTag.calls (x0_2.extract ((ji22) : Int).toNat x0_2.size) true _ A25.out).mono ?_); rintro e w35 ⟨rfl, hb⟩; have n0_ := Aside0.mk (below_step (by repeat (first | (with_reducible first | exact HB.out | apply below_alloc | apply pw_below_drewN | apply below_drew1) | exact HB.out)) hb); clear HB; have HB := n0_; clear n0_; (try clear hb); (try clear hb2); (try clear hk); (try clear hi)) | (go_at_call 18; (with_reducible refine (spec_RefIsName.calls k2 (x0_2.extract 0 (x7_2 : Int).toNat) true _ A29.out).mono ?_); rintro e w36 ⟨rfl, hb⟩; have n0_ := Aside0.mk (below_step (by repeat (first | (with_reducible first | exact HB.out | apply below_alloc | apply pw_below_drewN | apply below_drew1) | exact HB.out)) hb); clear HB; have HB := n0_; clear n0_; (try clear hb); (try clear hb2); (try clear hk); (try clear hi))); try go_wp2_with (first | (go_at_call 19; (with_reducible refine (spec_RefIsTag.calls (x0_2.extract ((ji22) : Int).toNat x0_2.size) true _ A25.out).mono ?_); rintro e w35 ⟨rfl, hb⟩; have n0_ := Aside0.mk (below_step (by repeat (first | (with_reducible first | exact HB.out | apply below_alloc | apply pw_below_drewN | apply below_drew1) | exact HB.out)) hb); clear HB; have HB := n0_; clear n0_; (try clear hb); (try clear hb2); (try clear hk); (try clear hi)) | (go_at_call 18; (with_reducible refine (spec_RefIsName.calls k2 (x0_2.extract 0 (x7_2 : Int).toNat) true _ A29.out).mono ?_); rintro e w36 ⟨rfl, hb⟩; have n0_ := Aside0.mk (below_step (by repeat (first | (with_reducible first | exact HB.out | apply below_alloc | apply pw_below_drewN | apply below_drew1) | exact HB.out)) hb); clear HB; have HB := n0_; clear n0_; (try clear hb); (try clear hb2); (try clear hk); (try clear hi))))
              refine bodyPost_ret (results_list (rs := [.tmp 2, .tmp 3, .tmp 4, .tmp 5]) rfl (by simp) (.tmp (.tmp (.tmp (.tmp .nil))))) rfl ?_
              exact ⟨by first | rfl | (simp [errW_none, errW_some] <;> rfl) | (simp only [← hji22]; first | rfl | (simp [errW_none, errW_some] <;> rfl)) | (simp [*, errW_none, errW_some] <;> rfl) | (simp [bneNil]; done), by repeat (first | (with_reducible first | exact HB.out | apply below_alloc | apply pw_below_drewN | apply below_drew1) | exact HB.out)⟩
             ·
              replace c30 := Bool.eq_false_iff.mpr c30
              subst c30
              have H1 : (spec_RefGroups.l0 k2 x0_2 x4_2 ji22) = some (r1, r2, r3, r4) := by rw [if_neg (show ¬ (false = true) by decide)] at H; exact H
              clear H
              have H := H1
              clear H1
              have H' := Aside0.mk H
              clear H
              have p20 : 0 ≤ (x7_2 : Int) := of_decide_eq_true (by first | (with_reducible assumption) | assumption)
              have q20 : x7_2 < (x0_2.size : Int) := of_decide_eq_true (by first | (with_reducible assumption) | assumption)
              have hx20 := bt_at x0_2 x7_2
              replace p20 := eq_true p20
              replace q20 := eq_true q20
              go_wp2_with (first | (go_at_call 19; (with_reducible refine (spec_RefIsTag.calls (x0_2.extract ((ji22) : Int).toNat x0_2.size) true _ A25.out).mono ?_); rintro e w37 ⟨rfl, hb⟩; have n0_ := Aside0.mk (below_step (by repeat (first | (with_reducible first | exact HB.out | apply below_alloc | apply pw_below_drewN | apply below_drew1) | exact HB.out)) hb); clear HB; have HB := n0_; clear n0_; (try clear hb); (try clear hb2); (try clear hk); (try clear hi)) | (go_at_call 18; (with_reducible refine (spec_RefIsName.calls k2 (x0_2.extract 0 (x7_2 : Int).toNat) false _ A29.out).mono ?_); rintro e w38 ⟨rfl, hb⟩; have n0_ := Aside0.mk (below_step (by repeat (first | (with_reducible first | exact HB.out | apply below_alloc | apply pw_below_drewN | apply below_drew1) | exact HB.out)) hb); clear HB; have HB := n0_; clear n0_; (try clear hb); (try clear hb2); (try clear hk); (try clear hi)))
              repeat (go_quiet (first | (go_at_call 19; (with_reducible refine (spec_RefIsTag.calls (x0_2.extract ((ji22) : Int).toNat x0_2.size) true _ A25.out).mono ?_); rintro e w37 ⟨rfl, hb⟩; have n0_ := Aside0.mk (below_step (by repeat (first | (with_reducible first | exact HB.out | apply below_alloc | apply pw_below_drewN | apply below_drew1) | exact HB.out)) hb); clear HB; have HB := n0_; clear n0_; (try clear hb); (try clear hb2); (try clear hk); (try clear hi)) | (go_at_call 18; (with_reducible refine (spec_RefIsName.calls k2 (x0_2.extract 0 (x7_2 : Int).toNat) false _ A29.out).mono ?_); rintro e w38 ⟨rfl, hb⟩; have n0_ := Aside0.mk (below_step (by repeat (first | (with_reducible first | exact HB.out | apply below_alloc | apply pw_below_drewN | apply below_drew1) | exact HB.out)) hb); clear HB; have HB := n0_; clear n0_; (try clear hb); (try clear hb2); (try clear hk); (try clear hi))); try go_wp2_with (first | (go_at_call 19; (with_reducible refine (spec_RefIsTag.calls (x0_2.extract ((ji22) : Int).toNat x0_2.size) true _ A25.out).mono ?_); rintro e w37 ⟨rfl, hb⟩; have n0_ := Aside0.mk (below_step (by repeat (first | (with_reducible first | exact HB.out | apply below_alloc | apply pw_below_drewN | apply below_drew1) | exact HB.out)) hb); clear HB; have HB := n0_; clear n0_; (try clear hb); (try clear hb2); (try clear hk); (try clear hi)) | (go_at_call 18; (with_reducible refine (spec_RefIsName.calls k2 (x0_2.extract 0 (x7_2 : Int).toNat) false _ A29.out).mono ?_); rintro e w38 ⟨rfl, hb⟩; have n0_ := Aside0.mk (below_step (by repeat (first | (with_reducible first | exact HB.out | apply below_alloc | apply pw_below_drewN | apply below_drew1) | exact HB.out)) hb); clear HB; have HB := n0_; clear n0_; (try clear hb); (try clear hb2); (try clear hk); (try clear hi))))
              go_roundg k2
              case measure => have := HJ2.out; have := HK2.out; omega
              case rel => exact ⟨(x4_2), (ji22), (by first | rfl | (simp; done) | (simp [*]; done)), (by first | rfl | (simp; done) | (simp only [← hji22] <;> (first | rfl | simp)) | (simp [*]; done)), H', ⟨by have := HJ2.out; have := HK2.out; omega⟩, ⟨by repeat (first | (with_reducible first | exact HB.out | apply below_alloc | apply pw_below_drewN | apply below_drew1) | exact HB.out)⟩⟩
            ·
             rw [if_neg c28] at H
             exact absurd H (by simp)
           ·
            replace c26 := Bool.eq_false_iff.mpr c26
            subst c26
            have H1 : (spec_RefGroups.l0 k2 x0_2 x4_2 ji22) = some (r1, r2, r3, r4) := by rw [if_neg (show ¬ (false = true) by decide)] at H; exact H
            clear H
            have H := H1
            clear H1
            have H' := Aside0.mk H
            clear H
            have p20 : 0 ≤ (x7_2 : Int) := of_decide_eq_true (by first | (with_reducible assumption) | assumption)
            have q20 : x7_2 < (x0_2.size : Int) := of_decide_eq_true (by first | (with_reducible assumption) | assumption)
            have hx20 := bt_at x0_2 x7_2
            replace p20 := eq_true p20
            replace q20 := eq_true q20
            go_wp2_with (first | (go_at_call 19; (with_reducible refine (spec_RefIsTag.calls (x0_2.extract ((ji22) : Int).toNat x0_2.size) false _ A25.out).mono ?_); rintro e w39 ⟨rfl, hb⟩; have n0_ := Aside0.mk (below_step (by repeat (first | (with_reducible first | exact HB.out | apply below_alloc | apply pw_below_drewN | apply below_drew1) | exact HB.out)) hb); clear HB; have HB := n0_; clear n0_; (try clear hb); (try clear hb2); (try clear hk); (try clear hi)))
            repeat (go_quiet (first | (go_at_call 19; (with_reducible refine (spec_RefIsTag.calls (x0_2.extract ((ji22) : Int).toNat x0_2.size) false _ A25.out).mono ?_); rintro e w39 ⟨rfl, hb⟩; have n0_ := Aside0.mk (below_step (by repeat (first | (with_reducible first | exact HB.out | apply below_alloc | apply pw_below_drewN | apply below_drew1) | exact HB.out)) hb); clear HB; have HB := n0_; clear n0_; (try clear hb); (try clear hb2); (try clear hk); (try clear hi))); try go_wp2_with (first | (go_at_call 19; (with_reducible refine (spec_RefIsTag.calls (x0_2.extract ((ji22) : Int).toNat x0_2.size) false _ A25.out).mono ?_); rintro e w39 ⟨rfl, hb⟩; have n0_ := Aside0.mk (below_step (by repeat (first | (with_reducible first | exact HB.out | apply below_alloc | apply pw_below_drewN | apply below_drew1) | exact HB.out)) hb); clear HB; have HB := n0_; clear n0_; (try clear hb); (try clear hb2); (try clear hk); (try clear hi))))
            go_roundg k2
            case measure => have := HJ2.out; have := HK2.out; omega
            case rel => exact ⟨(x4_2), (ji22), (by first | rfl | (simp; done) | (simp [*]; done)), (by first | rfl | (simp; done) | (simp only [← hji22] <;> (first | rfl | simp)) | (simp [*]; done)), H', ⟨by have := HJ2.out; have := HK2.out; omega⟩, ⟨by repeat (first | (with_reducible first | exact HB.out | apply below_alloc | apply pw_below_drewN | apply below_drew1) | exact HB.out)⟩⟩
          ·
           rw [if_neg c24] at H
           exact absurd H (by simp)
         ·
          rw [if_neg c23] at H
          exact absurd H (by simp)
        ·
         rw [if_neg c21] at H
         have c21b0 : ((bt x0_2 x7_2) == 58) = false := beq_eq_false_iff_ne.mpr c21
         have c21b1 : ((bt x0_2 x7_2) != 58) = true := bne_iff_ne.mpr c21
         have H' := Aside0.mk H
         clear H
         have p20 : 0 ≤ (x7_2 : Int) := of_decide_eq_true (by first | (with_reducible assumption) | assumption)
         have q20 : x7_2 < (x0_2.size : Int) := of_decide_eq_true (by first | (with_reducible assumption) | assumption)
         have hx20 := bt_at x0_2 x7_2
         replace p20 := eq_true p20
         replace q20 := eq_true q20
         go_wp2
         repeat (go_quiet (fail); try go_wp2)
         go_roundg k2
         case measure => have := HJ2.out; have := HK2.out; omega
         case rel => exact ⟨(x4_2), (wrap64 (x7_2 + 1)), (by first | rfl | (simp; done) | (simp [*]; done)), (by first | rfl | (simp; done) | (simp [*]; done)), H', ⟨by have := HJ2.out; have := HK2.out; omega⟩, ⟨by repeat (first | (with_reducible first | exact HB.out | apply below_alloc | apply pw_below_drewN | apply below_drew1) | exact HB.out)⟩⟩
       ·
        rw [if_neg c19] at H
        exact absurd H (by simp)
      ·
       rw [if_neg c18] at H
       have c18b0 : decide (x7_2 < (x0_2.size : Int)) = false := decide_eq_false c18
       clear c18
       simp only [Option.some.injEq, Prod.mk.injEq] at H
       obtain ⟨rfl, rfl, rfl, rfl⟩ := H
       go_wp2
       repeat (go_quiet (fail); try go_wp2)
       refine bodyPost_ret (results_list (rs := [.tmp 2, .tmp 3, .tmp 4, .tmp 5]) rfl (by simp) (.tmp (.tmp (.tmp (.tmp .nil))))) rfl ?_
       exact ⟨by first | rfl | (simp [errW_none, errW_some] <;> rfl) | (simp [*, errW_none, errW_some] <;> rfl) | (simp [bneNil]; done), by repeat (first | (with_reducible first | exact HB.out | apply below_alloc | apply pw_below_drewN | apply below_drew1) | exact HB.out)⟩

end Go.Proofs.Ytmlcpnehihmhaaa.PX
namespace Go.Proofs.Ytmlcpnehihmhaaa.PX

open Go.RowKit Go.Proofs.YtmlcpnehihmhaaaW.PrintWords Go.Proofs.YtmlcpnehihmhaaaW.PrintLast Go.Proofs.YtmlcpnehihmhaaaW.PrintMore

attribute [local go_sem] max2_int min2_int max_two min_two max_three min_three max_four min_four   -- for this text's walks alone

set_option linter.unusedVariables false

set_option linter.unusedSimpArgs false

def spec_refWrong.f (k : Nat) (a0 : ByteArray) : Option (Int) := if a0.toList = ([] : List UInt8) then (some 5) else ((spec_RefSmall.f k a0).bind fun t120 => ((spec_RefGroups.f k t120).bind fun bt121 => (if bt121.2.2.2 = true then (some 4) else (some 1))))

set_option maxHeartbeats 80000000 in
set_option maxRecDepth 100000 in
theorem spec_refWrong.calls (k : Nat) (a0 : ByteArray) (r : Int) (w : World) (h : spec_refWrong.f k a0 = some r) :
    Calls Try.prog 11 #[.string a0] w fun e w' => e = .returned (.int .i64 r) ∧ Below w.heap.size w w' := by
  have HB := Aside0.mk (Below.refl w.heap.size w)
  have H : (if a0.toList = ([] : List UInt8) then (some 5) else ((spec_RefSmall.f k a0).bind fun t120 => ((spec_RefGroups.f k t120).bind fun bt121 => (if bt121.2.2.2 = true then (some 4) else (some 1))))) = some r := h
  clear h
  by_cases c2 : a0.toList = ([] : List UInt8)
  · rw [if_pos c2] at H
    have c2b0 : (a0.toList == ([] : List UInt8)) = true := beq_iff_eq.mpr c2
    have c2b1 : (a0.toList != ([] : List UInt8)) = false := bne_eq_false_iff_eq.mpr c2
    clear c2
    obtain rfl := Option.some.inj H
    go_enter Try.func11, Try.ntmps11
    go_wp2
    go_ret
    exact ⟨by first | rfl | (simp [errW_none, errW_some] <;> rfl) | (simp [*, errW_none, errW_some] <;> rfl) | (simp [bneNil]; done), by repeat (first | (with_reducible first | exact HB.out | apply below_alloc | apply pw_below_drewN | apply below_drew1) | exact HB.out)⟩
  · rw [if_neg c2] at H
    have c2b0 : (a0.toList == ([] : List UInt8)) = false := beq_eq_false_iff_ne.mpr c2
    have c2b1 : (a0.toList != ([] : List UInt8)) = true := bne_iff_ne.mpr c2
    replace H := Option.bind_eq_some_iff.mp H
    obtain ⟨t120, A30, H⟩ := H
    replace H : ((spec_RefGroups.f k t120).bind fun bt121 => (if bt121.2.2.2 = true then (some 4) else (some 1))) = some r := H
    have A3 := Aside0.mk A30
    clear A30
    replace H := Option.bind_eq_some_iff.mp H
    obtain ⟨⟨t121, t122, t123, t124⟩, A40, H⟩ := H
    replace H : (if t124 = true then (some 4) else (some 1)) = some r := H
    have A4 := Aside0.mk A40
    clear A40
    by_cases c5 : t124 = true
    · subst c5
      have H1 : (some 4) = some r := by rw [if_pos rfl] at H; exact H
      clear H
      have H := H1
      clear H1
      obtain rfl := Option.some.inj H
      go_enter Try.func11, Try.ntmps11
      go_wp2_with (first | ((with_reducible refine gate_callee (f := 20) rfl ?_); refine goesL_ (some 11) rfl rfl Try.func20 (by kernel_rfl) rfl #[.string a0] rfl (by (try simp only [List.map_toArray, List.map_cons, List.map_nil]); first | done | rfl | (simp only [List.length_drop, List.length_take]; rfl)) ?_; (with_reducible refine (spec_RefSmall.calls k a0 t120 _ A3.out).mono ?_); rintro e w6 ⟨rfl, hb⟩; refine ⟨_, rfl, ?_⟩; have n0_ := Aside0.mk (below_step (by repeat (first | (with_reducible first | exact HB.out | apply below_alloc | apply pw_below_drewN | apply below_drew1) | exact HB.out)) hb); clear HB; have HB := n0_; clear n0_; (try clear hb); (try clear hb2); (try clear hk); (try clear hi)) | ((with_reducible refine gate_callee (f := 10) rfl ?_); refine goesL_ (some 12) rfl rfl Try.func10 (by kernel_rfl) rfl #[.string t120] rfl (by (try simp only [List.map_toArray, List.map_cons, List.map_nil]); first | done | rfl | (simp only [List.length_drop, List.length_take]; rfl)) ?_; (with_reducible refine (spec_RefGroups.calls k t120 t121 t122 t123 true _ A4.out).mono ?_); rintro e w7 ⟨rfl, hb⟩; refine ⟨_, rfl, ?_⟩; have n0_ := Aside0.mk (below_step (by repeat (first | (with_reducible first | exact HB.out | apply below_alloc | apply pw_below_drewN | apply below_drew1) | exact HB.out)) hb); clear HB; have HB := n0_; clear n0_; (try clear hb); (try clear hb2); (try clear hk); (try clear hi)))
      go_ret
      exact ⟨by first | rfl | (simp [errW_none, errW_some] <;> rfl) | (simp [*, errW_none, errW_some] <;> rfl) | (simp [bneNil]; done), by repeat (first | (with_reducible first | exact HB.out | apply below_alloc | apply pw_below_drewN | apply below_drew1) | exact HB.out)⟩
    · replace c5 := Bool.eq_false_iff.mpr c5
      subst c5
      have H1 : (some 1) = some r := by rw [if_neg (show ¬ (false = true) by decide)] at H; exact H
      clear H
      have H := H1
      clear H1
      obtain rfl := Option.some.inj H
      go_enter Try.func11, Try.ntmps11
      go_wp2_with (first | ((with_reducible refine gate_callee (f := 20) rfl ?_); refine goesL_ (some 11) rfl rfl Try.func20 (by kernel_rfl) rfl #[.string a0] rfl (by (try simp only [List.map_toArray, List.map_cons, List.map_nil]); first | done | rfl | (simp only [List.length_drop, List.length_take]; rfl)) ?_; (with_reducible refine (spec_RefSmall.calls k a0 t120 _ A3.out).mono ?_); rintro e w8 ⟨rfl, hb⟩; refine ⟨_, rfl, ?_⟩; have n0_ := Aside0.mk (below_step (by repeat (first | (with_reducible first | exact HB.out | apply below_alloc | apply pw_below_drewN | apply below_drew1) | exact HB.out)) hb); clear HB; have HB := n0_; clear n0_; (try clear hb); (try clear hb2); (try clear hk); (try clear hi)) | ((with_reducible refine gate_callee (f := 10) rfl ?_); refine goesL_ (some 12) rfl rfl Try.func10 (by kernel_rfl) rfl #[.string t120] rfl (by (try simp only [List.map_toArray, List.map_cons, List.map_nil]); first | done | rfl | (simp only [List.length_drop, List.length_take]; rfl)) ?_; (with_reducible refine (spec_RefGroups.calls k t120 t121 t122 t123 false _ A4.out).mono ?_); rintro e w9 ⟨rfl, hb⟩; refine ⟨_, rfl, ?_⟩; have n0_ := Aside0.mk (below_step (by repeat (first | (with_reducible first | exact HB.out | apply below_alloc | apply pw_below_drewN | apply below_drew1) | exact HB.out)) hb); clear HB; have HB := n0_; clear n0_; (try clear hb); (try clear hb2); (try clear hk); (try clear hi)))
      go_ret
      exact ⟨by first | rfl | (simp [errW_none, errW_some] <;> rfl) | (simp [*, errW_none, errW_some] <;> rfl) | (simp [bneNil]; done), by repeat (first | (with_reducible first | exact HB.out | apply below_alloc | apply pw_below_drewN | apply below_drew1) | exact HB.out)⟩

end Go.Proofs.Ytmlcpnehihmhaaa.PX
namespace Go.Proofs.Ytmlcpnehihmhaaa.PX

open Go.RowKit Go.Proofs.YtmlcpnehihmhaaaW.PrintWords Go.Proofs.YtmlcpnehihmhaaaW.PrintLast Go.Proofs.YtmlcpnehihmhaaaW.PrintMore

attribute [local go_sem] max2_int min2_int max_two min_two max_three min_three max_four min_four   -- for this text's walks alone

set_option linter.unusedVariables false

set_option linter.unusedSimpArgs false

def spec_DigestCheck.j0 : Nat → ByteArray → Int → Bool → Option (Int)
  | 0, _, _, _ => none
  | k + 1, x0, x3, x14 => if x14 = true then (some 3) else (if 0 ≤ x3 then (if x3 ≤ (x0.size : Int) then ((spec_DigestSize.f (x0.extract 0 (x3 : Int).toNat)).bind fun t126 => (if t126 = 0 then ((spec_DigestForm.f x0).bind fun t127 => (if t127 = true then (if 0 ≤ (wrap64 (x3 + 1)) then (if (wrap64 (x3 + 1)) ≤ (x0.size : Int) then ((spec_DigestFits.f (x0.extract 0 (x3 : Int).toNat) (x0.extract ((wrap64 (x3 + 1)) : Int).toNat x0.size)).bind fun t128 => (some t128)) else (none)) else (none)) else (some 3))) else (if 0 ≤ (wrap64 (x3 + 1)) then (if (wrap64 (x3 + 1)) ≤ (x0.size : Int) then ((spec_DigestFits.f (x0.extract 0 (x3 : Int).toNat) (x0.extract ((wrap64 (x3 + 1)) : Int).toNat x0.size)).bind fun t129 => (some t129)) else (none)) else (none)))) else (none)) else (none))

def spec_DigestCheck.f (k : Nat) (a0 : ByteArray) : Option (Int) := (spec_RefFirst.f k a0 58).bind fun t125 => (if t125 < 1 then (spec_DigestCheck.j0 k a0 t125 true) else (spec_DigestCheck.j0 k a0 t125 ((wrap64 (t125 + 1)) == (a0.size : Int))))

def spec_DigestCheck.T6 : Bool × List (List Nat × List Nat) := (true, [([], []), ([], []), ([0, 1], [0, 1]), ([], []), ([], []), ([4], [4]), ([3, 5], [3, 5]), ([2, 6], [2, 6]), ([7, 7, 0, 1, 2, 3, 4, 5, 6, 7], [7])])

def spec_DigestCheck.B6 : List Nat := [0, 0, 3, 0, 0, 16, 56, 127, 255]

theorem spec_DigestCheck.tab6 : rtab .any (opsOf Try.f13 6) = spec_DigestCheck.T6 := by kernel_rfl

theorem spec_DigestCheck.bits6 : waitsOk spec_DigestCheck.T6.2 spec_DigestCheck.B6 = true := by kernel_rfl

set_option maxHeartbeats 80000000 in
set_option maxRecDepth 100000 in
theorem spec_DigestCheck.calls (k : Nat) (a0 : ByteArray) (r : Int) (w : World) (h : spec_DigestCheck.f k a0 = some r) :
  Calls Try.prog 13 #[.string a0] w fun e w' => e = .returned (.int .i64 r) ∧ Below w.heap.size w w' := by
 have HB := Aside0.mk (Below.refl w.heap.size w)
 have H : ((spec_RefFirst.f k a0 58).bind fun t125 => (if t125 < 1 then (spec_DigestCheck.j0 k a0 t125 true) else (spec_DigestCheck.j0 k a0 t125 ((wrap64 (t125 + 1)) == (a0.size : Int))))) = some r := h
 clear h
 replace H := Option.bind_eq_some_iff.mp H
 obtain ⟨t125, A20, H⟩ := H
 replace H : (if t125 < 1 then (spec_DigestCheck.j0 k a0 t125 true) else (spec_DigestCheck.j0 k a0 t125 ((wrap64 (t125 + 1)) == (a0.size : Int)))) = some r := H
 have A2 := Aside0.mk A20
 clear A20
 have HC3 := Aside0.mk H
 clear H
 go_enter Try.func13, Try.ntmps13
 go_upto_region 2 with (first | ((with_reducible refine gate_callee (f := 16) rfl ?_); refine goesL_ (some 5) rfl rfl Try.func16 (by kernel_rfl) rfl #[.string a0, .int .u8 58] rfl (by (try simp only [List.map_toArray, List.map_cons, List.map_nil]); first | done | rfl | (simp only [List.length_drop, List.length_take]; rfl)) ?_; (with_reducible refine (spec_RefFirst.calls k a0 58 t125 _ A2.out).mono ?_); rintro e w' ⟨rfl, ⟨nd, rfl⟩⟩; refine ⟨_, rfl, ?_⟩))
 (try simp only [Act.put, List.setIfInBounds_toArray, List.set_cons_zero, List.set_cons_succ])
 go_cut [14] (fun v14 wc => ∃ (kq : Nat) (x14_2 : Bool), v14 = .bool x14_2 ∧ Aside0 (spec_DigestCheck.j0 kq a0 t125 x14_2 = some r) ∧ Aside0 (kq ≤ k) ∧ Aside0 (Below w.heap.size w wc))
 case first =>
  have H := HC3.out
  clear HC3
  by_cases c4 : t125 < 1
  ·
   rw [if_pos c4] at H
   have c4b0 : decide (t125 < 1) = true := decide_eq_true c4
   clear c4
   (first | rw [c4b0] | (simp only [i64_w, i32_w]; rw [c4b0]) | skip)
   have H' := Aside0.mk H
   clear H
   go_wp2
   go_meet
   case rel => exact ⟨_, (true), (by first | rfl | (simp; done) | (simp [*]; done)), H', ⟨by first | omega | exact Nat.le_refl _⟩, ⟨by repeat (first | (with_reducible first | exact HB.out | apply below_alloc | apply pw_below_drewN | apply below_drew1) | exact HB.out)⟩⟩
  ·
   rw [if_neg c4] at H
   have c4b0 : decide (t125 < 1) = false := decide_eq_false c4
   clear c4
   (first | rw [c4b0] | (simp only [i64_w, i32_w]; rw [c4b0]) | skip)
   have H' := Aside0.mk H
   clear H
   go_wp2
   go_meet
   case rel => exact ⟨_, (((wrap64 (t125 + 1)) == (a0.size : Int))), (by first | rfl | (simp; done) | (simp [*]; done)), H', ⟨by first | omega | exact Nat.le_refl _⟩, ⟨by repeat (first | (with_reducible first | exact HB.out | apply below_alloc | apply pw_below_drewN | apply below_drew1) | exact HB.out)⟩⟩
 case rest =>
  clear HC3
  try clear c1
  try clear p2
  try clear c4
  try clear c4b0
  obtain ⟨kq, x14_2, rfl, HA, HJ2, HB⟩ := hcut
  cases kq with
  | zero => exact absurd HA.out (by simp [spec_DigestCheck.j0])
  | succ kj2 =>
   have H := HA.out
   clear HA
   simp only [spec_DigestCheck.j0] at H
   by_cases c5 : x14_2 = true
   ·
    subst c5
    have H1 : (some 3) = some r := by rw [if_pos rfl] at H; exact H
    clear H
    have H := H1
    clear H1
    obtain rfl := Option.some.inj H
    go_wp2
    go_ret
    exact ⟨by first | rfl | (simp [errW_none, errW_some] <;> rfl) | (simp [*, errW_none, errW_some] <;> rfl) | (simp [bneNil]; done), by repeat (first | (with_reducible first | exact HB.out | apply below_alloc | apply pw_below_drewN | apply below_drew1) | exact HB.out)⟩
   ·
    replace c5 := Bool.eq_false_iff.mpr c5
    subst c5
    have H1 : (if 0 ≤ t125 then (if t125 ≤ (a0.size : Int) then ((spec_DigestSize.f (a0.extract 0 (t125 : Int).toNat)).bind fun t126 => (if t126 = 0 then ((spec_DigestForm.f a0).bind fun t127 => (if t127 = true then (if 0 ≤ (wrap64 (t125 + 1)) then (if (wrap64 (t125 + 1)) ≤ (a0.size : Int) then ((spec_DigestFits.f (a0.extract 0 (t125 : Int).toNat) (a0.extract ((wrap64 (t125 + 1)) : Int).toNat a0.size)).bind fun t128 => (some t128)) else (none)) else (none)) else (some 3))) else (if 0 ≤ (wrap64 (t125 + 1)) then (if (wrap64 (t125 + 1)) ≤ (a0.size : Int) then ((spec_DigestFits.f (a0.extract 0 (t125 : Int).toNat) (a0.extract ((wrap64 (t125 + 1)) : Int).toNat a0.size)).bind fun t129 => (some t129)) else (none)) else (none)))) else (none)) else (none)) = some r := by rw [if_neg (show ¬ (false = true) by decide)] at H; exact H
    clear H
    have H := H1
    clear H1
    by_cases c6 : 0 ≤ t125
    ·
     rw [if_pos c6] at H
     have c6b0 := eq_true c6
     have c6b1 : decide (0 ≤ t125) = true := decide_eq_true c6
     clear c6
     by_cases c7 : t125 ≤ (a0.size : Int)
     ·
      rw [if_pos c7] at H
      have c7b0 := eq_true c7
      have c7b1 : decide (t125 ≤ (a0.size : Int)) = true := decide_eq_true c7
      clear c7
      replace H := Option.bind_eq_some_iff.mp H
      obtain ⟨t126, A80, H⟩ := H
      replace H : (if t126 = 0 then ((spec_DigestForm.f a0).bind fun t127 => (if t127 = true then (if 0 ≤ (wrap64 (t125 + 1)) then (if (wrap64 (t125 + 1)) ≤ (a0.size : Int) then ((spec_DigestFits.f (a0.extract 0 (t125 : Int).toNat) (a0.extract ((wrap64 (t125 + 1)) : Int).toNat a0.size)).bind fun t128 => (some t128)) else (none)) else (none)) else (some 3))) else (if 0 ≤ (wrap64 (t125 + 1)) then (if (wrap64 (t125 + 1)) ≤ (a0.size : Int) then ((spec_DigestFits.f (a0.extract 0 (t125 : Int).toNat) (a0.extract ((wrap64 (t125 + 1)) : Int).toNat a0.size)).bind fun t129 => (some t129)) else (none)) else (none))) = some r := H
      have A8 := Aside0.mk A80
      clear A80
      by_cases c9 : t126 = 0
      ·
       rw [if_pos c9] at H
       have c9b0 : (t126 == 0) = true := beq_iff_eq.mpr c9
       have c9b1 : (t126 != 0) = false := bne_eq_false_iff_eq.mpr c9
       clear c9
       replace H := Option.bind_eq_some_iff.mp H
       obtain ⟨t127, A100, H⟩ := H
       replace H : (if t127 = true then (if 0 ≤ (wrap64 (t125 + 1)) then (if (wrap64 (t125 + 1)) ≤ (a0.size : Int) then ((spec_DigestFits.f (a0.extract 0 (t125 : Int).toNat) (a0.extract ((wrap64 (t125 + 1)) : Int).toNat a0.size)).bind fun t128 => (some t128)) else (none)) else (none)) else (some 3)) = some r := H
       have A10 := Aside0.mk A100
       clear A100
       by_cases c11 : t127 = true
       ·
        subst c11
        have H1 : (if 0 ≤ (wrap64 (t125 + 1)) then (if (wrap64 (t125 + 1)) ≤ (a0.size : Int) then ((spec_DigestFits.f (a0.extract 0 (t125 : Int).toNat) (a0.extract ((wrap64 (t125 + 1)) : Int).toNat a0.size)).bind fun t128 => (some t128)) else (none)) else (none)) = some r := by rw [if_pos rfl] at H; exact H
        clear H
        have H := H1
        clear H1
        have c12b0 := eq_true (of_decide_eq_true (by first | (with_reducible assumption) | assumption) : 0 ≤ t125)
        have c13b0 := eq_true (of_decide_eq_true (by first | (with_reducible assumption) | assumption) : t125 ≤ (a0.size : Int))
        obtain ⟨ji14, hji14⟩ : ∃ j_ : Int, (wrap64 (t125 + 1)) = j_ := ⟨_, rfl⟩
        replace H : (if 0 ≤ (ji14) then (if (ji14) ≤ (a0.size : Int) then ((spec_DigestFits.f (a0.extract 0 (t125 : Int).toNat) (a0.extract ((ji14) : Int).toNat a0.size)).bind fun t128 => (some t128)) else (none)) else (none)) = some r := by first | (rw [hji14] at H; exact H) | (simp only [hji14] at H ⊢; exact H)
        (try rw [hji14] at A8)
        (try rw [hji14] at A10)
        have hji14w : (IntKind.i64.wrap (t125 + 1)) = ji14 := (i64_w _).trans hji14
        by_cases c15 : 0 ≤ (ji14)
        ·
         rw [if_pos c15] at H
         have c15b0 := eq_true c15
         have c15b1 : decide (0 ≤ (ji14)) = true := decide_eq_true c15
         clear c15
         by_cases c16 : (ji14) ≤ (a0.size : Int)
         ·
          rw [if_pos c16] at H
          have c16b0 := eq_true c16
          have c16b1 : decide ((ji14) ≤ (a0.size : Int)) = true := decide_eq_true c16
          clear c16
          replace H := Option.bind_eq_some_iff.mp H
          obtain ⟨t128, A170, H⟩ := H
          replace H : (some t128) = some r := H
          have A17 := Aside0.mk A170
          clear A170
          obtain rfl := Option.some.inj H
          try go_wp2_with (first | ((with_reducible refine gate_callee (f := 23) rfl ?_); refine goesL_ (some 18) rfl rfl Try.func23 (by kernel_rfl) rfl #[.string (a0.extract 0 (t125 : Int).toNat)] rfl (by (try simp only [List.map_toArray, List.map_cons, List.map_nil]); first | done | rfl | (simp only [List.length_drop, List.length_take]; rfl)) ?_; (with_reducible refine (spec_DigestSize.calls (a0.extract 0 (t125 : Int).toNat) t126 _ A8.out).mono ?_); rintro e w' ⟨rfl, ⟨nd, rfl⟩⟩; refine ⟨_, rfl, ?_⟩) | (go_at_call 24; (with_reducible refine (spec_DigestForm.calls a0 true _ A10.out).mono ?_); rintro e w18 ⟨rfl, hb⟩; have n0_ := Aside0.mk (below_step (by repeat (first | (with_reducible first | exact HB.out | apply below_alloc | apply pw_below_drewN | apply below_drew1) | exact HB.out)) hb); clear HB; have HB := n0_; clear n0_; (try clear hb); (try clear hb2); (try clear hk); (try clear hi)))
          have n0_ := Aside0.mk (below_drew1 HB.out)
          clear HB
          have HB := n0_
          clear n0_
          refine start_ (n := 9) (S := fun w' => True) (ds := []) #[false, false, false, false, false, false, false, false, false] (by kernel_rfl) rfl rfl trivial (fun hHeld => ?_); refine with_tabW spec_DigestCheck.tab6 spec_DigestCheck.bits6 (fun HT_ HW_ => ?_)
          generalize w18.drew = w19 at HB hHeld ⊢
          refine pure_ (i := 0) (N := some 25) (v := ?_) (a' := ?_) #[true, false, false, false, false, false, false, false, false] rfl rfl (any_of HT_.out (by kernel_rfl)) (fun _ _ _ h => h) (Or.inl ⟨by rfl, ?_⟩) ?_ ?_
          rotate_left
          ·
           intro w'
           go_simp
           with_reducible rfl
          rotate_left
          ·
           simp only [Act.put, List.setIfInBounds_toArray, List.set_cons_zero, List.set_cons_succ, i64_w, i32_w]
           rfl
          refine pure_ (i := 1) (N := some 26) (v := ?_) (a' := ?_) #[true, true, false, false, false, false, false, false, false] rfl rfl (any_of HT_.out (by kernel_rfl)) (fun _ _ _ h => h) (Or.inl ⟨by rfl, ?_⟩) ?_ ?_
          rotate_left
          ·
           intro w'
           go_simp
           with_reducible rfl
          rotate_left
          ·
           simp only [Act.put, List.setIfInBounds_toArray, List.set_cons_zero, List.set_cons_succ, i64_w, i32_w]
           rfl
          refine pure_ (i := 2) (N := some 27) (v := ?_) (a' := ?_) #[true, true, true, false, false, false, false, false, false] rfl rfl (any_of HT_.out (by kernel_rfl)) (fun _ _ _ h => h) (Or.inl ⟨by rfl, ?_⟩) ?_ ?_
          rotate_left
          ·
           intro w'
           go_simp
           with_reducible rfl
          rotate_left
          ·
           simp only [Act.put, List.setIfInBounds_toArray, List.set_cons_zero, List.set_cons_succ, i64_w, i32_w]
           rfl
          refine pure_ (i := 3) (N := some 28) (v := ?_) (a' := ?_) #[true, true, true, true, false, false, false, false, false] rfl rfl (any_of HT_.out (by kernel_rfl)) (fun _ _ _ h => h) (Or.inl ⟨by rfl, ?_⟩) ?_ ?_
          rotate_left
          ·
           intro w'
           go_simp
           with_reducible rfl
          rotate_left
          ·
           simp only [Act.put, List.setIfInBounds_toArray, List.set_cons_zero, List.set_cons_succ, i64_w, i32_w]
           rfl
          refine pure_ (i := 4) (N := some 29) (v := ?_) (a' := ?_) #[true, true, true, true, true, false, false, false, false] rfl rfl (any_of HT_.out (by kernel_rfl)) (fun _ _ _ h => h) (Or.inl ⟨by rfl, ?_⟩) ?_ ?_
          rotate_left
          ·
           intro w'
           go_simp
           with_reducible rfl
          rotate_left
          ·
           simp only [Act.put, List.setIfInBounds_toArray, List.set_cons_zero, List.set_cons_succ, i64_w, i32_w]
           rfl
          refine pure_ (i := 5) (N := some 30) (v := ?_) (a' := ?_) #[true, true, true, true, true, true, false, false, false] rfl rfl (any_of HT_.out (by kernel_rfl)) (fun _ _ _ h => h) (Or.inl ⟨by rfl, ?_⟩) ?_ ?_
          rotate_left
          ·
           intro w'
           go_simp
           with_reducible rfl
          rotate_left
          ·
           simp only [Act.put, List.setIfInBounds_toArray, List.set_cons_zero, List.set_cons_succ, i64_w, i32_w]
           rfl
          refine pure_ (i := 6) (N := some 31) (v := ?_) (a' := ?_) #[true, true, true, true, true, true, true, false, false] rfl rfl (any_of HT_.out (by kernel_rfl)) (fun _ _ _ h => h) (Or.inl ⟨by rfl, ?_⟩) ?_ ?_
          rotate_left
          ·
           intro w'
           go_simp
           with_reducible rfl
          rotate_left
          ·
           simp only [Act.put, List.setIfInBounds_toArray, List.set_cons_zero, List.set_cons_succ, i64_w, i32_w]
           rfl
          refine one_ (i := 7) (N := some 32) #[true, true, true, true, true, true, true, true, false] rfl rfl (one_of HT_.out (by kernel_rfl)) (by decide) (fun K hK => ?_)
          refine goes_ Try.func25 (by kernel_rfl) rfl #[.string (a0.extract 0 (t125 : Int).toNat), .string (a0.extract ((ji14) : Int).toNat a0.size)] (by rfl) rfl rfl (by (try simp only [List.map_toArray, List.map_cons, List.map_nil]); first | done | (simp only [hji14]; rfl) | rfl | (simp only [List.length_drop, List.length_take]; rfl)) ?_
          with_reducible refine (spec_DigestFits.calls (a0.extract 0 (t125 : Int).toNat) (a0.extract ((ji14) : Int).toNat a0.size) t128 _ A17.out).mono ?_
          rintro e w20 ⟨rfl, hb⟩
          refine ⟨_, rfl, ?_⟩
          have n0_ := Aside0.mk (below_step (by repeat (first | (with_reducible first | exact HB.out | apply below_alloc | apply pw_below_drewN | apply below_drew1) | exact HB.out)) hb)
          clear HB
          have HB := n0_
          clear n0_
          (try clear hb)
          (try clear hb2)
          (try clear hk)
          (try clear hi)
          refine hK.out _ _ trivial (fun hHeld => ?_)
          clear hK K
          refine norm_ (a' := ?_) ?_ ?_
          rotate_left
          ·
           show Act.put _ (some 32) _ = _
           simp only [Act.put, List.setIfInBounds_toArray, List.set_cons_zero, List.set_cons_succ, i64_w, i32_w]
           rfl
          refine pure_ (i := 8) (N := some 2) (v := ?_) (a' := ?_) #[true, true, true, true, true, true, true, true, true] rfl rfl (any_of HT_.out (by kernel_rfl)) (fun _ _ _ h => h) (Or.inl ⟨by rfl, ?_⟩) ?_ ?_
          rotate_left
          ·
           intro w'
           go_simp
           with_reducible rfl
          rotate_left
          ·
           simp only [Act.put, List.setIfInBounds_toArray, List.set_cons_zero, List.set_cons_succ, i64_w, i32_w]
           rfl
          refine done_ (done_of HT_.out (by kernel_rfl)) ?_
          try go_wp2
          go_ret
          exact ⟨by first | rfl | (simp [errW_none, errW_some] <;> rfl) | (simp only [← hji14]; first | rfl | (simp [errW_none, errW_some] <;> rfl)) | (simp [*, errW_none, errW_some] <;> rfl) | (simp [bneNil]; done), by repeat (first | (with_reducible first | exact HB.out | apply below_alloc | apply pw_below_drewN | apply below_drew1) | exact HB.out)⟩
         ·
          rw [if_neg c16] at H
          exact absurd H (by simp)
        ·
         rw [if_neg c15] at H
         exact absurd H (by simp)
       ·
        replace c11 := Bool.eq_false_iff.mpr c11
        subst c11
        have H1 : (some 3) = some r := by rw [if_neg (show ¬ (false = true) by decide)] at H; exact H
        clear H
        have H := H1
        clear H1
        obtain rfl := Option.some.inj H
        go_wp2_with (first | ((with_reducible refine gate_callee (f := 23) rfl ?_); refine goesL_ (some 18) rfl rfl Try.func23 (by kernel_rfl) rfl #[.string (a0.extract 0 (t125 : Int).toNat)] rfl (by (try simp only [List.map_toArray, List.map_cons, List.map_nil]); first | done | rfl | (simp only [List.length_drop, List.length_take]; rfl)) ?_; (with_reducible refine (spec_DigestSize.calls (a0.extract 0 (t125 : Int).toNat) t126 _ A8.out).mono ?_); rintro e w' ⟨rfl, ⟨nd, rfl⟩⟩; refine ⟨_, rfl, ?_⟩) | (go_at_call 24; (with_reducible refine (spec_DigestForm.calls a0 false _ A10.out).mono ?_); rintro e w21 ⟨rfl, hb⟩; have n0_ := Aside0.mk (below_step (by repeat (first | (with_reducible first | exact HB.out | apply below_alloc | apply pw_below_drewN | apply below_drew1) | exact HB.out)) hb); clear HB; have HB := n0_; clear n0_; (try clear hb); (try clear hb2); (try clear hk); (try clear hi)))
        go_ret
        exact ⟨by first | rfl | (simp [errW_none, errW_some] <;> rfl) | (simp [*, errW_none, errW_some] <;> rfl) | (simp [bneNil]; done), by repeat (first | (with_reducible first | exact HB.out | apply below_alloc | apply pw_below_drewN | apply below_drew1) | exact HB.out)⟩
      ·
       rw [if_neg c9] at H
       have c9b0 : (t126 == 0) = false := beq_eq_false_iff_ne.mpr c9
       have c9b1 : (t126 != 0) = true := bne_iff_ne.mpr c9
       have c22b0 := eq_true (of_decide_eq_true (by first | (with_reducible assumption) | assumption) : 0 ≤ t125)
       have c23b0 := eq_true (of_decide_eq_true (by first | (with_reducible assumption) | assumption) : t125 ≤ (a0.size : Int))
       obtain ⟨ji24, hji24⟩ : ∃ j_ : Int, (wrap64 (t125 + 1)) = j_ := ⟨_, rfl⟩
       replace H : (if 0 ≤ (ji24) then (if (ji24) ≤ (a0.size : Int) then ((spec_DigestFits.f (a0.extract 0 (t125 : Int).toNat) (a0.extract ((ji24) : Int).toNat a0.size)).bind fun t129 => (some t129)) else (none)) else (none)) = some r := by first | (rw [hji24] at H; exact H) | (simp only [hji24] at H ⊢; exact H)
       (try rw [hji24] at A8)
       have hji24w : (IntKind.i64.wrap (t125 + 1)) = ji24 := (i64_w _).trans hji24
       by_cases c25 : 0 ≤ (ji24)
       ·
        rw [if_pos c25] at H
        have c25b0 := eq_true c25
        have c25b1 : decide (0 ≤ (ji24)) = true := decide_eq_true c25
        clear c25
        by_cases c26 : (ji24) ≤ (a0.size : Int)
        ·
         rw [if_pos c26] at H
         have c26b0 := eq_true c26
         have c26b1 : decide ((ji24) ≤ (a0.size : Int)) = true := decide_eq_true c26
         clear c26
         replace H := Option.bind_eq_some_iff.mp H
         obtain ⟨t129, A270, H⟩ := H
         replace H : (some t129) = some r := H
         have A27 := Aside0.mk A270
         clear A270
         obtain rfl := Option.some.inj H
         try go_wp2_with (first | ((with_reducible refine gate_callee (f := 23) rfl ?_); refine goesL_ (some 18) rfl rfl Try.func23 (by kernel_rfl) rfl #[.string (a0.extract 0 (t125 : Int).toNat)] rfl (by (try simp only [List.map_toArray, List.map_cons, List.map_nil]); first | done | rfl | (simp only [List.length_drop, List.length_take]; rfl)) ?_; (with_reducible refine (spec_DigestSize.calls (a0.extract 0 (t125 : Int).toNat) t126 _ A8.out).mono ?_); rintro e w' ⟨rfl, ⟨nd, rfl⟩⟩; refine ⟨_, rfl, ?_⟩))
         (try (rw [drewN_self wc]; generalize hq_ : World.drewN wc _ = wc; have n0_ : Aside0 (Below w.heap.size w wc) := ⟨by rw [← hq_]; exact (by repeat (first | (with_reducible first | exact HB.out | apply below_alloc | apply pw_below_drewN | apply below_drew1) | exact HB.out))⟩; clear HB hq_; have HB := n0_; clear n0_))
         have n0_ := Aside0.mk (below_drew1 HB.out)
         clear HB
         have HB := n0_
         clear n0_
         refine start_ (n := 9) (S := fun w' => True) (ds := []) #[false, false, false, false, false, false, false, false, false] (by kernel_rfl) rfl rfl trivial (fun hHeld => ?_); refine with_tabW spec_DigestCheck.tab6 spec_DigestCheck.bits6 (fun HT_ HW_ => ?_)
         generalize wc.drew = w28 at HB hHeld ⊢
         refine pure_ (i := 0) (N := some 25) (v := ?_) (a' := ?_) #[true, false, false, false, false, false, false, false, false] rfl rfl (any_of HT_.out (by kernel_rfl)) (fun _ _ _ h => h) (Or.inl ⟨by rfl, ?_⟩) ?_ ?_
         rotate_left
         ·
          intro w'
          go_simp
          with_reducible rfl
         rotate_left
         ·
          simp only [Act.put, List.setIfInBounds_toArray, List.set_cons_zero, List.set_cons_succ, i64_w, i32_w]
          rfl
         refine pure_ (i := 1) (N := some 26) (v := ?_) (a' := ?_) #[true, true, false, false, false, false, false, false, false] rfl rfl (any_of HT_.out (by kernel_rfl)) (fun _ _ _ h => h) (Or.inl ⟨by rfl, ?_⟩) ?_ ?_
         rotate_left
         ·
          intro w'
          go_simp
          with_reducible rfl
         rotate_left
         ·
          simp only [Act.put, List.setIfInBounds_toArray, List.set_cons_zero, List.set_cons_succ, i64_w, i32_w]
          rfl
         refine pure_ (i := 2) (N := some 27) (v := ?_) (a' := ?_) #[true, true, true, false, false, false, false, false, false] rfl rfl (any_of HT_.out (by kernel_rfl)) (fun _ _ _ h => h) (Or.inl ⟨by rfl, ?_⟩) ?_ ?_
         rotate_left
         ·
          intro w'
          go_simp
          with_reducible rfl
         rotate_left
         ·
          simp only [Act.put, List.setIfInBounds_toArray, List.set_cons_zero, List.set_cons_succ, i64_w, i32_w]
          rfl
         refine pure_ (i := 3) (N := some 28) (v := ?_) (a' := ?_) #[true, true, true, true, false, false, false, false, false] rfl rfl (any_of HT_.out (by kernel_rfl)) (fun _ _ _ h => h) (Or.inl ⟨by rfl, ?_⟩) ?_ ?_
         rotate_left
         ·
          intro w'
          go_simp
          with_reducible rfl
         rotate_left
         ·
          simp only [Act.put, List.setIfInBounds_toArray, List.set_cons_zero, List.set_cons_succ, i64_w, i32_w]
          rfl
         refine pure_ (i := 4) (N := some 29) (v := ?_) (a' := ?_) #[true, true, true, true, true, false, false, false, false] rfl rfl (any_of HT_.out (by kernel_rfl)) (fun _ _ _ h => h) (Or.inl ⟨by rfl, ?_⟩) ?_ ?_
         rotate_left
         ·
          intro w'
          go_simp
          with_reducible rfl
         rotate_left
         ·
          simp only [Act.put, List.setIfInBounds_toArray, List.set_cons_zero, List.set_cons_succ, i64_w, i32_w]
          rfl
         refine pure_ (i := 5) (N := some 30) (v := ?_) (a' := ?_) #[true, true, true, true, true, true, false, false, false] rfl rfl (any_of HT_.out (by kernel_rfl)) (fun _ _ _ h => h) (Or.inl ⟨by rfl, ?_⟩) ?_ ?_
         rotate_left
         ·
          intro w'
          go_simp
          with_reducible rfl
         rotate_left
         ·
          simp only [Act.put, List.setIfInBounds_toArray, List.set_cons_zero, List.set_cons_succ, i64_w, i32_w]
          rfl
         refine pure_ (i := 6) (N := some 31) (v := ?_) (a' := ?_) #[true, true, true, true, true, true, true, false, false] rfl rfl (any_of HT_.out (by kernel_rfl)) (fun _ _ _ h => h) (Or.inl ⟨by rfl, ?_⟩) ?_ ?_
         rotate_left
         ·
          intro w'
          go_simp
          with_reducible rfl
         rotate_left
         ·
          simp only [Act.put, List.setIfInBounds_toArray, List.set_cons_zero, List.set_cons_succ, i64_w, i32_w]
          rfl
         refine one_ (i := 7) (N := some 32) #[true, true, true, true, true, true, true, true, false] rfl rfl (one_of HT_.out (by kernel_rfl)) (by decide) (fun K hK => ?_)
         refine goes_ Try.func25 (by kernel_rfl) rfl #[.string (a0.extract 0 (t125 : Int).toNat), .string (a0.extract ((ji24) : Int).toNat a0.size)] (by rfl) rfl rfl (by (try simp only [List.map_toArray, List.map_cons, List.map_nil]); first | done | (simp only [hji24]; rfl) | rfl | (simp only [List.length_drop, List.length_take]; rfl)) ?_
         with_reducible refine (spec_DigestFits.calls (a0.extract 0 (t125 : Int).toNat) (a0.extract ((ji24) : Int).toNat a0.size) t129 _ A27.out).mono ?_
         rintro e w29 ⟨rfl, hb⟩
         refine ⟨_, rfl, ?_⟩
         have n0_ := Aside0.mk (below_step (by repeat (first | (with_reducible first | exact HB.out | apply below_alloc | apply pw_below_drewN | apply below_drew1) | exact HB.out)) hb)
         clear HB
         have HB := n0_
         clear n0_
         (try clear hb)
         (try clear hb2)
         (try clear hk)
         (try clear hi)
         refine hK.out _ _ trivial (fun hHeld => ?_)
         clear hK K
         refine norm_ (a' := ?_) ?_ ?_
         rotate_left
         ·
          show Act.put _ (some 32) _ = _
          simp only [Act.put, List.setIfInBounds_toArray, List.set_cons_zero, List.set_cons_succ, i64_w, i32_w]
          rfl
         refine pure_ (i := 8) (N := some 2) (v := ?_) (a' := ?_) #[true, true, true, true, true, true, true, true, true] rfl rfl (any_of HT_.out (by kernel_rfl)) (fun _ _ _ h => h) (Or.inl ⟨by rfl, ?_⟩) ?_ ?_
         rotate_left
         ·
          intro w'
          go_simp
          with_reducible rfl
         rotate_left
         ·
          simp only [Act.put, List.setIfInBounds_toArray, List.set_cons_zero, List.set_cons_succ, i64_w, i32_w]
          rfl
         refine done_ (done_of HT_.out (by kernel_rfl)) ?_
         try go_wp2
         go_ret
         exact ⟨by first | rfl | (simp [errW_none, errW_some] <;> rfl) | (simp only [← hji24]; first | rfl | (simp [errW_none, errW_some] <;> rfl)) | (simp [*, errW_none, errW_some] <;> rfl) | (simp [bneNil]; done), by repeat (first | (with_reducible first | exact HB.out | apply below_alloc | apply pw_below_drewN | apply below_drew1) | exact HB.out)⟩
        ·
         rw [if_neg c26] at H
         exact absurd H (by simp)
       ·
        rw [if_neg c25] at H
        exact absurd H (by simp)
     ·
      rw [if_neg c7] at H
      exact absurd H (by simp)
    ·
     rw [if_neg c6] at H
     exact absurd H (by simp)

end Go.Proofs.Ytmlcpnehihmhaaa.PX
namespace Go.Proofs.Ytmlcpnehihmhaaa.PX

open Go.RowKit Go.Proofs.YtmlcpnehihmhaaaW.PrintWords Go.Proofs.YtmlcpnehihmhaaaW.PrintLast Go.Proofs.YtmlcpnehihmhaaaW.PrintMore

attribute [local go_sem] max2_int min2_int max_two min_two max_three min_three max_four min_four   -- for this text's walks alone

set_option linter.unusedVariables false

set_option linter.unusedSimpArgs false

def spec_RefParse.f (k : Nat) (a0 : ByteArray) : Option (ByteArray × ByteArray × ByteArray × ByteArray × Int) := (spec_RefGroups.f k a0).bind fun bt131 => (if bt131.2.2.2 = true then ((spec_RefNameGroups.f k bt131.1).bind fun bt136 => (if (bt136.2.1.size : Int) > 255 then (some ((⟨#[]⟩ : ByteArray), (⟨#[]⟩ : ByteArray), (⟨#[]⟩ : ByteArray), (⟨#[]⟩ : ByteArray), 6)) else (if bt131.2.2.1.toList = ([] : List UInt8) then (some (bt136.1, bt136.2.1, bt131.2.1, bt131.2.2.1, 0)) else ((spec_DigestCheck.f k bt131.2.2.1).bind fun t139 => (if t139 = 0 then (some (bt136.1, bt136.2.1, bt131.2.1, bt131.2.2.1, 0)) else (some ((⟨#[]⟩ : ByteArray), (⟨#[]⟩ : ByteArray), (⟨#[]⟩ : ByteArray), (⟨#[]⟩ : ByteArray), t139))))))) else ((spec_refWrong.f k a0).bind fun t135 => (some ((⟨#[]⟩ : ByteArray), (⟨#[]⟩ : ByteArray), (⟨#[]⟩ : ByteArray), (⟨#[]⟩ : ByteArray), t135))))

set_option maxHeartbeats 80000000 in
set_option maxRecDepth 100000 in
theorem spec_RefParse.calls (k : Nat) (a0 : ByteArray) (r1 : ByteArray) (r2 : ByteArray) (r3 : ByteArray) (r4 : ByteArray) (r5 : Int) (w : World) (h : spec_RefParse.f k a0 = some (r1, r2, r3, r4, r5)) :
  Calls Try.prog 7 #[.string a0] w fun e w' => e = .returned (.tuple #[.agg #[.string r1, .string r2, .string r3, .string r4], .int .i64 r5]) ∧ Below w.heap.size w w' := by
 have hu23 := Try.underlying23
 have HB := Aside0.mk (Below.refl w.heap.size w)
 have H : ((spec_RefGroups.f k a0).bind fun bt131 => (if bt131.2.2.2 = true then ((spec_RefNameGroups.f k bt131.1).bind fun bt136 => (if (bt136.2.1.size : Int) > 255 then (some ((⟨#[]⟩ : ByteArray), (⟨#[]⟩ : ByteArray), (⟨#[]⟩ : ByteArray), (⟨#[]⟩ : ByteArray), 6)) else (if bt131.2.2.1.toList = ([] : List UInt8) then (some (bt136.1, bt136.2.1, bt131.2.1, bt131.2.2.1, 0)) else ((spec_DigestCheck.f k bt131.2.2.1).bind fun t139 => (if t139 = 0 then (some (bt136.1, bt136.2.1, bt131.2.1, bt131.2.2.1, 0)) else (some ((⟨#[]⟩ : ByteArray), (⟨#[]⟩ : ByteArray), (⟨#[]⟩ : ByteArray), (⟨#[]⟩ : ByteArray), t139))))))) else ((spec_refWrong.f k a0).bind fun t135 => (some ((⟨#[]⟩ : ByteArray), (⟨#[]⟩ : ByteArray), (⟨#[]⟩ : ByteArray), (⟨#[]⟩ : ByteArray), t135))))) = some (r1, r2, r3, r4, r5) := h
 clear h
 replace H := Option.bind_eq_some_iff.mp H
 obtain ⟨⟨t131, t132, t133, t134⟩, A20, H⟩ := H
 replace H : (if t134 = true then ((spec_RefNameGroups.f k t131).bind fun bt136 => (if (bt136.2.1.size : Int) > 255 then (some ((⟨#[]⟩ : ByteArray), (⟨#[]⟩ : ByteArray), (⟨#[]⟩ : ByteArray), (⟨#[]⟩ : ByteArray), 6)) else (if t133.toList = ([] : List UInt8) then (some (bt136.1, bt136.2.1, t132, t133, 0)) else ((spec_DigestCheck.f k t133).bind fun t139 => (if t139 = 0 then (some (bt136.1, bt136.2.1, t132, t133, 0)) else (some ((⟨#[]⟩ : ByteArray), (⟨#[]⟩ : ByteArray), (⟨#[]⟩ : ByteArray), (⟨#[]⟩ : ByteArray), t139))))))) else ((spec_refWrong.f k a0).bind fun t135 => (some ((⟨#[]⟩ : ByteArray), (⟨#[]⟩ : ByteArray), (⟨#[]⟩ : ByteArray), (⟨#[]⟩ : ByteArray), t135)))) = some (r1, r2, r3, r4, r5) := H
 have A2 := Aside0.mk A20
 clear A20
 by_cases c3 : t134 = true
 ·
  subst c3
  have H1 : ((spec_RefNameGroups.f k t131).bind fun bt136 => (if (bt136.2.1.size : Int) > 255 then (some ((⟨#[]⟩ : ByteArray), (⟨#[]⟩ : ByteArray), (⟨#[]⟩ : ByteArray), (⟨#[]⟩ : ByteArray), 6)) else (if t133.toList = ([] : List UInt8) then (some (bt136.1, bt136.2.1, t132, t133, 0)) else ((spec_DigestCheck.f k t133).bind fun t139 => (if t139 = 0 then (some (bt136.1, bt136.2.1, t132, t133, 0)) else (some ((⟨#[]⟩ : ByteArray), (⟨#[]⟩ : ByteArray), (⟨#[]⟩ : ByteArray), (⟨#[]⟩ : ByteArray), t139))))))) = some (r1, r2, r3, r4, r5) := by rw [if_pos rfl] at H; exact H
  clear H
  have H := H1
  clear H1
  replace H := Option.bind_eq_some_iff.mp H
  obtain ⟨⟨t136, t137, t138⟩, A40, H⟩ := H
  replace H : (if (t137.size : Int) > 255 then (some ((⟨#[]⟩ : ByteArray), (⟨#[]⟩ : ByteArray), (⟨#[]⟩ : ByteArray), (⟨#[]⟩ : ByteArray), 6)) else (if t133.toList = ([] : List UInt8) then (some (t136, t137, t132, t133, 0)) else ((spec_DigestCheck.f k t133).bind fun t139 => (if t139 = 0 then (some (t136, t137, t132, t133, 0)) else (some ((⟨#[]⟩ : ByteArray), (⟨#[]⟩ : ByteArray), (⟨#[]⟩ : ByteArray), (⟨#[]⟩ : ByteArray), t139)))))) = some (r1, r2, r3, r4, r5) := H
  have A4 := Aside0.mk A40
  clear A40
  by_cases c5 : (t137.size : Int) > 255
  ·
   rw [if_pos c5] at H
   have c5b0 : decide (255 < (t137.size : Int)) = true := decide_eq_true c5
   have c5b1 : decide (255 < t137.size) = true := decide_eq_true (by omega)
   clear c5
   simp only [Option.some.injEq, Prod.mk.injEq] at H
   obtain ⟨rfl, rfl, rfl, rfl, rfl⟩ := H
   go_enter Try.func7, Try.ntmps7
   go_wp2_with (first | ((with_reducible refine gate_dst (N := 2) rfl ?_); refine box_event ?hg (N := 2) ?hd (cs := #[.string (⟨#[]⟩ : ByteArray), .string (⟨#[]⟩ : ByteArray), .string (⟨#[]⟩ : ByteArray), .string (⟨#[]⟩ : ByteArray)]) (t := 23) ?hr ?_; (case hd => rfl); (case hg => rfl); (case hr => first | (go_simp; done) | (go_simp; rfl) | (go_simp; simp [u8w]; done)); intro gb130 hg w6 hbox hb; have n0_ := Aside0.mk (below_step (by repeat (first | (with_reducible first | exact HB.out | apply below_alloc | apply pw_below_drewN | apply below_drew1) | exact HB.out)) hb); have n1_ := Aside0.mk (hbox); have n2_ := Aside0.mk ((by rw [hg]; exact (below_size (by repeat (first | (with_reducible first | exact HB.out | apply below_alloc | apply pw_below_drewN | apply below_drew1) | exact HB.out))) : w.heap.size ≤ gb130)); have n3_ := Aside0.mk ((by rw [hg]; exact (below_size (by repeat (first | (with_reducible first | exact HB.out | apply below_alloc | apply pw_below_drewN | apply below_drew1) | exact HB.out))) : w.heap.size ≤ gb130)); clear HB; have HB := n0_; have BK130 := n1_; have GW130 := n2_; have GE130 := n3_; clear n0_ n1_ n2_ n3_; clear hb hbox hg) | ((with_reducible refine gate_callee (f := 10) rfl ?_); refine goesL_ (some 14) rfl rfl Try.func10 (by kernel_rfl) rfl #[.string a0] rfl (by (try simp only [List.map_toArray, List.map_cons, List.map_nil]); first | done | rfl | (simp only [List.length_drop, List.length_take]; rfl)) ?_; (with_reducible refine (spec_RefGroups.calls k a0 t131 t132 t133 true _ A2.out).mono ?_); rintro e w7 ⟨rfl, hb⟩; refine ⟨_, rfl, ?_⟩; have n0_ := Aside0.mk (blk_below (g := gb130) (o := .cells #[.string (⟨#[]⟩ : ByteArray), .string (⟨#[]⟩ : ByteArray), .string (⟨#[]⟩ : ByteArray), .string (⟨#[]⟩ : ByteArray)] 23 (0, 0)) (by (with_reducible repeat (first | refine blk_drewN ?_ _ | refine blk_drew ?_ | refine blk_alloc ?_ _)); exact BK130.out) hb); have n1_ := Aside0.mk (below_step (by repeat (first | (with_reducible first | exact HB.out | apply below_alloc | apply pw_below_drewN | apply below_drew1 | refine below_set ?_ GE130.out) | exact HB.out)) hb); clear BK130; clear HB; have BK130 := n0_; have HB := n1_; clear n0_ n1_; (try clear hb); (try clear hb2); (try clear hk); (try clear hi)) | ((with_reducible refine gate_callee (f := 12) rfl ?_); refine goesL_ (some 26) rfl rfl Try.func12 (by kernel_rfl) rfl #[.string t131] rfl (by (try simp only [List.map_toArray, List.map_cons, List.map_nil]); first | done | rfl | (simp only [List.length_drop, List.length_take]; rfl)) ?_; (with_reducible refine (spec_RefNameGroups.calls k t131 t136 t137 t138 _ A4.out).mono ?_); rintro e w8 ⟨rfl, hb⟩; refine ⟨_, rfl, ?_⟩; have n0_ := Aside0.mk (blk_below (g := gb130) (o := .cells #[.string (⟨#[]⟩ : ByteArray), .string (⟨#[]⟩ : ByteArray), .string (⟨#[]⟩ : ByteArray), .string (⟨#[]⟩ : ByteArray)] 23 (0, 0)) (by (with_reducible repeat (first | refine blk_drewN ?_ _ | refine blk_drew ?_ | refine blk_alloc ?_ _)); exact BK130.out) hb); have n1_ := Aside0.mk (below_step (by repeat (first | (with_reducible first | exact HB.out | apply below_alloc | apply pw_below_drewN | apply below_drew1 | refine below_set ?_ GE130.out) | exact HB.out)) hb); clear BK130; clear HB; have BK130 := n0_; have HB := n1_; clear n0_ n1_; (try clear hb); (try clear hb2); (try clear hk); (try clear hi); have hcz9_0 : w8.cell? ⟨gb130, 0, none⟩ = some (.string (⟨#[]⟩ : ByteArray)) := (blk_cell BK130.out 0).trans rfl; have hcz9_1 : w8.cell? ⟨gb130, 1, none⟩ = some (.string (⟨#[]⟩ : ByteArray)) := (blk_cell BK130.out 1).trans rfl; have hcz9_2 : w8.cell? ⟨gb130, 2, none⟩ = some (.string (⟨#[]⟩ : ByteArray)) := (blk_cell BK130.out 2).trans rfl; have hcz9_3 : w8.cell? ⟨gb130, 3, none⟩ = some (.string (⟨#[]⟩ : ByteArray)) := (blk_cell BK130.out 3).trans rfl; have hfz9_0 := blk_frozen BK130.out 0; have hfz9_1 := blk_frozen BK130.out 1; have hfz9_2 := blk_frozen BK130.out 2; have hfz9_3 := blk_frozen BK130.out 3))
   refine bodyPost_ret (results_ct rfl _ _ gb130 23 #[.string (⟨#[]⟩ : ByteArray), .string (⟨#[]⟩ : ByteArray), .string (⟨#[]⟩ : ByteArray), .string (⟨#[]⟩ : ByteArray)] (0, 0) _ rfl (by (with_reducible repeat (first | refine blk_drewN ?_ _ | refine blk_drew ?_ | refine blk_alloc ?_ _)); refine blk_put (cs := #[.string (⟨#[]⟩ : ByteArray), .string (⟨#[]⟩ : ByteArray), .string (⟨#[]⟩ : ByteArray), .string (⟨#[]⟩ : ByteArray)]) ?_ 3 _ rfl; (with_reducible repeat (first | refine blk_drewN ?_ _ | refine blk_drew ?_ | refine blk_alloc ?_ _)); refine blk_put (cs := #[.string (⟨#[]⟩ : ByteArray), .string (⟨#[]⟩ : ByteArray), .string (⟨#[]⟩ : ByteArray), .string (⟨#[]⟩ : ByteArray)]) ?_ 2 _ rfl; (with_reducible repeat (first | refine blk_drewN ?_ _ | refine blk_drew ?_ | refine blk_alloc ?_ _)); refine blk_put (cs := #[.string (⟨#[]⟩ : ByteArray), .string (⟨#[]⟩ : ByteArray), .string (⟨#[]⟩ : ByteArray), .string (⟨#[]⟩ : ByteArray)]) ?_ 1 _ rfl; (with_reducible repeat (first | refine blk_drewN ?_ _ | refine blk_drew ?_ | refine blk_alloc ?_ _)); refine blk_put (cs := #[.string (⟨#[]⟩ : ByteArray), .string (⟨#[]⟩ : ByteArray), .string (⟨#[]⟩ : ByteArray), .string (⟨#[]⟩ : ByteArray)]) ?_ 0 _ rfl; (with_reducible repeat (first | refine blk_drewN ?_ _ | refine blk_drew ?_ | refine blk_alloc ?_ _)); exact BK130.out) Try.underlying23 rfl (by kernel_rfl)) rfl ?_
   exact ⟨by first | rfl | (simp [errW_none, errW_some] <;> rfl) | (simp [*, errW_none, errW_some] <;> rfl) | (simp [bneNil]; done), by repeat (first | (with_reducible first | exact HB.out | apply below_alloc | apply pw_below_drewN | apply below_drew1 | refine below_set ?_ GE130.out) | exact HB.out)⟩
  ·
   rw [if_neg c5] at H
   have c5b0 : decide (255 < (t137.size : Int)) = false := decide_eq_false c5
   have c5b1 : decide (255 < t137.size) = false := decide_eq_false (by omega)
   clear c5
   by_cases c10 : t133.toList = ([] : List UInt8)
   ·
    rw [if_pos c10] at H
    have c10b0 : (t133.toList == ([] : List UInt8)) = true := beq_iff_eq.mpr c10
    have c10b1 : (t133.toList != ([] : List UInt8)) = false := bne_eq_false_iff_eq.mpr c10
    clear c10
    simp only [Option.some.injEq, Prod.mk.injEq] at H
    obtain ⟨rfl, rfl, rfl, rfl, rfl⟩ := H
    go_enter Try.func7, Try.ntmps7
    go_wp2_with (first | ((with_reducible refine gate_dst (N := 2) rfl ?_); refine box_event ?hg (N := 2) ?hd (cs := #[.string (⟨#[]⟩ : ByteArray), .string (⟨#[]⟩ : ByteArray), .string (⟨#[]⟩ : ByteArray), .string (⟨#[]⟩ : ByteArray)]) (t := 23) ?hr ?_; (case hd => rfl); (case hg => rfl); (case hr => first | (go_simp; done) | (go_simp; rfl) | (go_simp; simp [u8w]; done)); intro gb130 hg w11 hbox hb; have n0_ := Aside0.mk (below_step (by repeat (first | (with_reducible first | exact HB.out | apply below_alloc | apply pw_below_drewN | apply below_drew1) | exact HB.out)) hb); have n1_ := Aside0.mk (hbox); have n2_ := Aside0.mk ((by rw [hg]; exact (below_size (by repeat (first | (with_reducible first | exact HB.out | apply below_alloc | apply pw_below_drewN | apply below_drew1) | exact HB.out))) : w.heap.size ≤ gb130)); have n3_ := Aside0.mk ((by rw [hg]; exact (below_size (by repeat (first | (with_reducible first | exact HB.out | apply below_alloc | apply pw_below_drewN | apply below_drew1) | exact HB.out))) : w.heap.size ≤ gb130)); clear HB; have HB := n0_; have BK130 := n1_; have GW130 := n2_; have GE130 := n3_; clear n0_ n1_ n2_ n3_; clear hb hbox hg) | ((with_reducible refine gate_callee (f := 10) rfl ?_); refine goesL_ (some 14) rfl rfl Try.func10 (by kernel_rfl) rfl #[.string a0] rfl (by (try simp only [List.map_toArray, List.map_cons, List.map_nil]); first | done | rfl | (simp only [List.length_drop, List.length_take]; rfl)) ?_; (with_reducible refine (spec_RefGroups.calls k a0 t131 t132 t133 true _ A2.out).mono ?_); rintro e w12 ⟨rfl, hb⟩; refine ⟨_, rfl, ?_⟩; have n0_ := Aside0.mk (blk_below (g := gb130) (o := .cells #[.string (⟨#[]⟩ : ByteArray), .string (⟨#[]⟩ : ByteArray), .string (⟨#[]⟩ : ByteArray), .string (⟨#[]⟩ : ByteArray)] 23 (0, 0)) (by (with_reducible repeat (first | refine blk_drewN ?_ _ | refine blk_drew ?_ | refine blk_alloc ?_ _)); exact BK130.out) hb); have n1_ := Aside0.mk (below_step (by repeat (first | (with_reducible first | exact HB.out | apply below_alloc | apply pw_below_drewN | apply below_drew1 | refine below_set ?_ GE130.out) | exact HB.out)) hb); clear BK130; clear HB; have BK130 := n0_; have HB := n1_; clear n0_ n1_; (try clear hb); (try clear hb2); (try clear hk); (try clear hi)) | ((with_reducible refine gate_callee (f := 12) rfl ?_); refine goesL_ (some 26) rfl rfl Try.func12 (by kernel_rfl) rfl #[.string t131] rfl (by (try simp only [List.map_toArray, List.map_cons, List.map_nil]); first | done | rfl | (simp only [List.length_drop, List.length_take]; rfl)) ?_; (with_reducible refine (spec_RefNameGroups.calls k t131 t136 t137 t138 _ A4.out).mono ?_); rintro e w13 ⟨rfl, hb⟩; refine ⟨_, rfl, ?_⟩; have n0_ := Aside0.mk (blk_below (g := gb130) (o := .cells #[.string (⟨#[]⟩ : ByteArray), .string (⟨#[]⟩ : ByteArray), .string (⟨#[]⟩ : ByteArray), .string (⟨#[]⟩ : ByteArray)] 23 (0, 0)) (by (with_reducible repeat (first | refine blk_drewN ?_ _ | refine blk_drew ?_ | refine blk_alloc ?_ _)); exact BK130.out) hb); have n1_ := Aside0.mk (below_step (by repeat (first | (with_reducible first | exact HB.out | apply below_alloc | apply pw_below_drewN | apply below_drew1 | refine below_set ?_ GE130.out) | exact HB.out)) hb); clear BK130; clear HB; have BK130 := n0_; have HB := n1_; clear n0_ n1_; (try clear hb); (try clear hb2); (try clear hk); (try clear hi); have hcz14_0 : w13.cell? ⟨gb130, 0, none⟩ = some (.string (⟨#[]⟩ : ByteArray)) := (blk_cell BK130.out 0).trans rfl; have hcz14_1 : w13.cell? ⟨gb130, 1, none⟩ = some (.string (⟨#[]⟩ : ByteArray)) := (blk_cell BK130.out 1).trans rfl; have hcz14_2 : w13.cell? ⟨gb130, 2, none⟩ = some (.string (⟨#[]⟩ : ByteArray)) := (blk_cell BK130.out 2).trans rfl; have hcz14_3 : w13.cell? ⟨gb130, 3, none⟩ = some (.string (⟨#[]⟩ : ByteArray)) := (blk_cell BK130.out 3).trans rfl; have hfz14_0 := blk_frozen BK130.out 0; have hfz14_1 := blk_frozen BK130.out 1; have hfz14_2 := blk_frozen BK130.out 2; have hfz14_3 := blk_frozen BK130.out 3))
    refine bodyPost_ret (results_ct rfl _ _ gb130 23 #[.string t136, .string t137, .string t132, .string t133] (0, 0) _ rfl (by (with_reducible repeat (first | refine blk_drewN ?_ _ | refine blk_drew ?_ | refine blk_alloc ?_ _)); refine blk_put (cs := #[.string t136, .string t137, .string t132, .string (⟨#[]⟩ : ByteArray)]) ?_ 3 _ rfl; (with_reducible repeat (first | refine blk_drewN ?_ _ | refine blk_drew ?_ | refine blk_alloc ?_ _)); refine blk_put (cs := #[.string t136, .string t137, .string (⟨#[]⟩ : ByteArray), .string (⟨#[]⟩ : ByteArray)]) ?_ 2 _ rfl; (with_reducible repeat (first | refine blk_drewN ?_ _ | refine blk_drew ?_ | refine blk_alloc ?_ _)); refine blk_put (cs := #[.string t136, .string (⟨#[]⟩ : ByteArray), .string (⟨#[]⟩ : ByteArray), .string (⟨#[]⟩ : ByteArray)]) ?_ 1 _ rfl; (with_reducible repeat (first | refine blk_drewN ?_ _ | refine blk_drew ?_ | refine blk_alloc ?_ _)); refine blk_put (cs := #[.string (⟨#[]⟩ : ByteArray), .string (⟨#[]⟩ : ByteArray), .string (⟨#[]⟩ : ByteArray), .string (⟨#[]⟩ : ByteArray)]) ?_ 0 _ rfl; (with_reducible repeat (first | refine blk_drewN ?_ _ | refine blk_drew ?_ | refine blk_alloc ?_ _)); exact BK130.out) Try.underlying23 rfl (by kernel_rfl)) rfl ?_
    exact ⟨by first | rfl | (simp [errW_none, errW_some] <;> rfl) | (simp [*, errW_none, errW_some] <;> rfl) | (simp [bneNil]; done), by repeat (first | (with_reducible first | exact HB.out | apply below_alloc | apply pw_below_drewN | apply below_drew1 | refine below_set ?_ GE130.out) | exact HB.out)⟩
   ·
    rw [if_neg c10] at H
    have c10b0 : (t133.toList == ([] : List UInt8)) = false := beq_eq_false_iff_ne.mpr c10
    have c10b1 : (t133.toList != ([] : List UInt8)) = true := bne_iff_ne.mpr c10
    replace H := Option.bind_eq_some_iff.mp H
    obtain ⟨t139, A150, H⟩ := H
    replace H : (if t139 = 0 then (some (t136, t137, t132, t133, 0)) else (some ((⟨#[]⟩ : ByteArray), (⟨#[]⟩ : ByteArray), (⟨#[]⟩ : ByteArray), (⟨#[]⟩ : ByteArray), t139))) = some (r1, r2, r3, r4, r5) := H
    have A15 := Aside0.mk A150
    clear A150
    by_cases c16 : t139 = 0
    ·
     rw [if_pos c16] at H
     have c16b0 : (t139 == 0) = true := beq_iff_eq.mpr c16
     have c16b1 : (t139 != 0) = false := bne_eq_false_iff_eq.mpr c16
     clear c16
     simp only [Option.some.injEq, Prod.mk.injEq] at H
     obtain ⟨rfl, rfl, rfl, rfl, rfl⟩ := H
     go_enter Try.func7, Try.ntmps7
     go_wp2_with (first | ((with_reducible refine gate_dst (N := 2) rfl ?_); refine box_event ?hg (N := 2) ?hd (cs := #[.string (⟨#[]⟩ : ByteArray), .string (⟨#[]⟩ : ByteArray), .string (⟨#[]⟩ : ByteArray), .string (⟨#[]⟩ : ByteArray)]) (t := 23) ?hr ?_; (case hd => rfl); (case hg => rfl); (case hr => first | (go_simp; done) | (go_simp; rfl) | (go_simp; simp [u8w]; done)); intro gb130 hg w17 hbox hb; have n0_ := Aside0.mk (below_step (by repeat (first | (with_reducible first | exact HB.out | apply below_alloc | apply pw_below_drewN | apply below_drew1) | exact HB.out)) hb); have n1_ := Aside0.mk (hbox); have n2_ := Aside0.mk ((by rw [hg]; exact (below_size (by repeat (first | (with_reducible first | exact HB.out | apply below_alloc | apply pw_below_drewN | apply below_drew1) | exact HB.out))) : w.heap.size ≤ gb130)); have n3_ := Aside0.mk ((by rw [hg]; exact (below_size (by repeat (first | (with_reducible first | exact HB.out | apply below_alloc | apply pw_below_drewN | apply below_drew1) | exact HB.out))) : w.heap.size ≤ gb130)); clear HB; have HB := n0_; have BK130 := n1_; have GW130 := n2_; have GE130 := n3_; clear n0_ n1_ n2_ n3_; clear hb hbox hg) | ((with_reducible refine gate_callee (f := 10) rfl ?_); refine goesL_ (some 14) rfl rfl Try.func10 (by kernel_rfl) rfl #[.string a0] rfl (by (try simp only [List.map_toArray, List.map_cons, List.map_nil]); first | done | rfl | (simp only [List.length_drop, List.length_take]; rfl)) ?_; (with_reducible refine (spec_RefGroups.calls k a0 t131 t132 t133 true _ A2.out).mono ?_); rintro e w18 ⟨rfl, hb⟩; refine ⟨_, rfl, ?_⟩; have n0_ := Aside0.mk (blk_below (g := gb130) (o := .cells #[.string (⟨#[]⟩ : ByteArray), .string (⟨#[]⟩ : ByteArray), .string (⟨#[]⟩ : ByteArray), .string (⟨#[]⟩ : ByteArray)] 23 (0, 0)) (by (with_reducible repeat (first | refine blk_drewN ?_ _ | refine blk_drew ?_ | refine blk_alloc ?_ _)); exact BK130.out) hb); have n1_ := Aside0.mk (below_step (by repeat (first | (with_reducible first | exact HB.out | apply below_alloc | apply pw_below_drewN | apply below_drew1 | refine below_set ?_ GE130.out) | exact HB.out)) hb); clear BK130; clear HB; have BK130 := n0_; have HB := n1_; clear n0_ n1_; (try clear hb); (try clear hb2); (try clear hk); (try clear hi)) | ((with_reducible refine gate_callee (f := 12) rfl ?_); refine goesL_ (some 26) rfl rfl Try.func12 (by kernel_rfl) rfl #[.string t131] rfl (by (try simp only [List.map_toArray, List.map_cons, List.map_nil]); first | done | rfl | (simp only [List.length_drop, List.length_take]; rfl)) ?_; (with_reducible refine (spec_RefNameGroups.calls k t131 t136 t137 t138 _ A4.out).mono ?_); rintro e w19 ⟨rfl, hb⟩; refine ⟨_, rfl, ?_⟩; have n0_ := Aside0.mk (blk_below (g := gb130) (o := .cells #[.string (⟨#[]⟩ : ByteArray), .string (⟨#[]⟩ : ByteArray), .string (⟨#[]⟩ : ByteArray), .string (⟨#[]⟩ : ByteArray)] 23 (0, 0)) (by (with_reducible repeat (first | refine blk_drewN ?_ _ | refine blk_drew ?_ | refine blk_alloc ?_ _)); exact BK130.out) hb); have n1_ := Aside0.mk (below_step (by repeat (first | (with_reducible first | exact HB.out | apply below_alloc | apply pw_below_drewN | apply below_drew1 | refine below_set ?_ GE130.out) | exact HB.out)) hb); clear BK130; clear HB; have BK130 := n0_; have HB := n1_; clear n0_ n1_; (try clear hb); (try clear hb2); (try clear hk); (try clear hi)) | ((with_reducible refine gate_callee (f := 13) rfl ?_); refine goesL_ (some 37) rfl rfl Try.func13 (by kernel_rfl) rfl #[.string t133] rfl (by (try simp only [List.map_toArray, List.map_cons, List.map_nil]); first | done | rfl | (simp only [List.length_drop, List.length_take]; rfl)) ?_; (with_reducible refine (spec_DigestCheck.calls k t133 t139 _ A15.out).mono ?_); rintro e w20 ⟨rfl, hb⟩; refine ⟨_, rfl, ?_⟩; have n0_ := Aside0.mk (blk_below (g := gb130) (o := .cells #[.string (⟨#[]⟩ : ByteArray), .string (⟨#[]⟩ : ByteArray), .string (⟨#[]⟩ : ByteArray), .string (⟨#[]⟩ : ByteArray)] 23 (0, 0)) (by (with_reducible repeat (first | refine blk_drewN ?_ _ | refine blk_drew ?_ | refine blk_alloc ?_ _)); exact BK130.out) hb); have n1_ := Aside0.mk (below_step (by repeat (first | (with_reducible first | exact HB.out | apply below_alloc | apply pw_below_drewN | apply below_drew1 | refine below_set ?_ GE130.out) | exact HB.out)) hb); clear BK130; clear HB; have BK130 := n0_; have HB := n1_; clear n0_ n1_; (try clear hb); (try clear hb2); (try clear hk); (try clear hi); have hcz21_0 : w20.cell? ⟨gb130, 0, none⟩ = some (.string (⟨#[]⟩ : ByteArray)) := (blk_cell BK130.out 0).trans rfl; have hcz21_1 : w20.cell? ⟨gb130, 1, none⟩ = some (.string (⟨#[]⟩ : ByteArray)) := (blk_cell BK130.out 1).trans rfl; have hcz21_2 : w20.cell? ⟨gb130, 2, none⟩ = some (.string (⟨#[]⟩ : ByteArray)) := (blk_cell BK130.out 2).trans rfl; have hcz21_3 : w20.cell? ⟨gb130, 3, none⟩ = some (.string (⟨#[]⟩ : ByteArray)) := (blk_cell BK130.out 3).trans rfl; have hfz21_0 := blk_frozen BK130.out 0; have hfz21_1 := blk_frozen BK130.out 1; have hfz21_2 := blk_frozen BK130.out 2; have hfz21_3 := blk_frozen BK130.out 3))
     refine bodyPost_ret (results_ct rfl _ _ gb130 23 #[.string t136, .string t137, .string t132, .string t133] (0, 0) _ rfl (by (with_reducible repeat (first | refine blk_drewN ?_ _ | refine blk_drew ?_ | refine blk_alloc ?_ _)); refine blk_put (cs := #[.string t136, .string t137, .string t132, .string (⟨#[]⟩ : ByteArray)]) ?_ 3 _ rfl; (with_reducible repeat (first | refine blk_drewN ?_ _ | refine blk_drew ?_ | refine blk_alloc ?_ _)); refine blk_put (cs := #[.string t136, .string t137, .string (⟨#[]⟩ : ByteArray), .string (⟨#[]⟩ : ByteArray)]) ?_ 2 _ rfl; (with_reducible repeat (first | refine blk_drewN ?_ _ | refine blk_drew ?_ | refine blk_alloc ?_ _)); refine blk_put (cs := #[.string t136, .string (⟨#[]⟩ : ByteArray), .string (⟨#[]⟩ : ByteArray), .string (⟨#[]⟩ : ByteArray)]) ?_ 1 _ rfl; (with_reducible repeat (first | refine blk_drewN ?_ _ | refine blk_drew ?_ | refine blk_alloc ?_ _)); refine blk_put (cs := #[.string (⟨#[]⟩ : ByteArray), .string (⟨#[]⟩ : ByteArray), .string (⟨#[]⟩ : ByteArray), .string (⟨#[]⟩ : ByteArray)]) ?_ 0 _ rfl; (with_reducible repeat (first | refine blk_drewN ?_ _ | refine blk_drew ?_ | refine blk_alloc ?_ _)); exact BK130.out) Try.underlying23 rfl (by kernel_rfl)) rfl ?_
     exact ⟨by first | rfl | (simp [errW_none, errW_some] <;> rfl) | (simp [*, errW_none, errW_some] <;> rfl) | (simp [bneNil]; done), by repeat (first | (with_reducible first | exact HB.out | apply below_alloc | apply pw_below_drewN | apply below_drew1 | refine below_set ?_ GE130.out) | exact HB.out)⟩
    ·
     rw [if_neg c16] at H
     have c16b0 : (t139 == 0) = false := beq_eq_false_iff_ne.mpr c16
     have c16b1 : (t139 != 0) = true := bne_iff_ne.mpr c16
     simp only [Option.some.injEq, Prod.mk.injEq] at H
     obtain ⟨rfl, rfl, rfl, rfl, rfl⟩ := H
     go_enter Try.func7, Try.ntmps7
     go_wp2_with (first | ((with_reducible refine gate_dst (N := 2) rfl ?_); refine box_event ?hg (N := 2) ?hd (cs := #[.string (⟨#[]⟩ : ByteArray), .string (⟨#[]⟩ : ByteArray), .string (⟨#[]⟩ : ByteArray), .string (⟨#[]⟩ : ByteArray)]) (t := 23) ?hr ?_; (case hd => rfl); (case hg => rfl); (case hr => first | (go_simp; done) | (go_simp; rfl) | (go_simp; simp [u8w]; done)); intro gb130 hg w22 hbox hb; have n0_ := Aside0.mk (below_step (by repeat (first | (with_reducible first | exact HB.out | apply below_alloc | apply pw_below_drewN | apply below_drew1) | exact HB.out)) hb); have n1_ := Aside0.mk (hbox); have n2_ := Aside0.mk ((by rw [hg]; exact (below_size (by repeat (first | (with_reducible first | exact HB.out | apply below_alloc | apply pw_below_drewN | apply below_drew1) | exact HB.out))) : w.heap.size ≤ gb130)); have n3_ := Aside0.mk ((by rw [hg]; exact (below_size (by repeat (first | (with_reducible first | exact HB.out | apply below_alloc | apply pw_below_drewN | apply below_drew1) | exact HB.out))) : w.heap.size ≤ gb130)); clear HB; have HB := n0_; have BK130 := n1_; have GW130 := n2_; have GE130 := n3_; clear n0_ n1_ n2_ n3_; clear hb hbox hg) | ((with_reducible refine gate_callee (f := 10) rfl ?_); refine goesL_ (some 14) rfl rfl Try.func10 (by kernel_rfl) rfl #[.string a0] rfl (by (try simp only [List.map_toArray, List.map_cons, List.map_nil]); first | done | rfl | (simp only [List.length_drop, List.length_take]; rfl)) ?_; (with_reducible refine (spec_RefGroups.calls k a0 t131 t132 t133 true _ A2.out).mono ?_); rintro e w23 ⟨rfl, hb⟩; refine ⟨_, rfl, ?_⟩; have n0_ := Aside0.mk (blk_below (g := gb130) (o := .cells #[.string (⟨#[]⟩ : ByteArray), .string (⟨#[]⟩ : ByteArray), .string (⟨#[]⟩ : ByteArray), .string (⟨#[]⟩ : ByteArray)] 23 (0, 0)) (by (with_reducible repeat (first | refine blk_drewN ?_ _ | refine blk_drew ?_ | refine blk_alloc ?_ _)); exact BK130.out) hb); have n1_ := Aside0.mk (below_step (by repeat (first | (with_reducible first | exact HB.out | apply below_alloc | apply pw_below_drewN | apply below_drew1 | refine below_set ?_ GE130.out) | exact HB.out)) hb); clear BK130; clear HB; have BK130 := n0_; have HB := n1_; clear n0_ n1_; (try clear hb); (try clear hb2); (try clear hk); (try clear hi)) | ((with_reducible refine gate_callee (f := 12) rfl ?_); refine goesL_ (some 26) rfl rfl Try.func12 (by kernel_rfl) rfl #[.string t131] rfl (by (try simp only [List.map_toArray, List.map_cons, List.map_nil]); first | done | rfl | (simp only [List.length_drop, List.length_take]; rfl)) ?_; (with_reducible refine (spec_RefNameGroups.calls k t131 t136 t137 t138 _ A4.out).mono ?_); rintro e w24 ⟨rfl, hb⟩; refine ⟨_, rfl, ?_⟩; have n0_ := Aside0.mk (blk_below (g := gb130) (o := .cells #[.string (⟨#[]⟩ : ByteArray), .string (⟨#[]⟩ : ByteArray), .string (⟨#[]⟩ : ByteArray), .string (⟨#[]⟩ : ByteArray)] 23 (0, 0)) (by (with_reducible repeat (first | refine blk_drewN ?_ _ | refine blk_drew ?_ | refine blk_alloc ?_ _)); exact BK130.out) hb); have n1_ := Aside0.mk (below_step (by repeat (first | (with_reducible first | exact HB.out | apply below_alloc | apply pw_below_drewN | apply below_drew1 | refine below_set ?_ GE130.out) | exact HB.out)) hb); clear BK130; clear HB; have BK130 := n0_; have HB := n1_; clear n0_ n1_; (try clear hb); (try clear hb2); (try clear hk); (try clear hi)) | ((with_reducible refine gate_callee (f := 13) rfl ?_); refine goesL_ (some 37) rfl rfl Try.func13 (by kernel_rfl) rfl #[.string t133] rfl (by (try simp only [List.map_toArray, List.map_cons, List.map_nil]); first | done | rfl | (simp only [List.length_drop, List.length_take]; rfl)) ?_; (with_reducible refine (spec_DigestCheck.calls k t133 t139 _ A15.out).mono ?_); rintro e w25 ⟨rfl, hb⟩; refine ⟨_, rfl, ?_⟩; have n0_ := Aside0.mk (blk_below (g := gb130) (o := .cells #[.string (⟨#[]⟩ : ByteArray), .string (⟨#[]⟩ : ByteArray), .string (⟨#[]⟩ : ByteArray), .string (⟨#[]⟩ : ByteArray)] 23 (0, 0)) (by (with_reducible repeat (first | refine blk_drewN ?_ _ | refine blk_drew ?_ | refine blk_alloc ?_ _)); exact BK130.out) hb); have n1_ := Aside0.mk (below_step (by repeat (first | (with_reducible first | exact HB.out | apply below_alloc | apply pw_below_drewN | apply below_drew1 | refine below_set ?_ GE130.out) | exact HB.out)) hb); clear BK130; clear HB; have BK130 := n0_; have HB := n1_; clear n0_ n1_; (try clear hb); (try clear hb2); (try clear hk); (try clear hi); have hcz26_0 : w25.cell? ⟨gb130, 0, none⟩ = some (.string (⟨#[]⟩ : ByteArray)) := (blk_cell BK130.out 0).trans rfl; have hcz26_1 : w25.cell? ⟨gb130, 1, none⟩ = some (.string (⟨#[]⟩ : ByteArray)) := (blk_cell BK130.out 1).trans rfl; have hcz26_2 : w25.cell? ⟨gb130, 2, none⟩ = some (.string (⟨#[]⟩ : ByteArray)) := (blk_cell BK130.out 2).trans rfl; have hcz26_3 : w25.cell? ⟨gb130, 3, none⟩ = some (.string (⟨#[]⟩ : ByteArray)) := (blk_cell BK130.out 3).trans rfl; have hfz26_0 := blk_frozen BK130.out 0; have hfz26_1 := blk_frozen BK130.out 1; have hfz26_2 := blk_frozen BK130.out 2; have hfz26_3 := blk_frozen BK130.out 3))
     refine bodyPost_ret (results_ct rfl _ _ gb130 23 #[.string (⟨#[]⟩ : ByteArray), .string (⟨#[]⟩ : ByteArray), .string (⟨#[]⟩ : ByteArray), .string (⟨#[]⟩ : ByteArray)] (0, 0) _ rfl (by (with_reducible repeat (first | refine blk_drewN ?_ _ | refine blk_drew ?_ | refine blk_alloc ?_ _)); refine blk_put (cs := #[.string (⟨#[]⟩ : ByteArray), .string (⟨#[]⟩ : ByteArray), .string (⟨#[]⟩ : ByteArray), .string (⟨#[]⟩ : ByteArray)]) ?_ 3 _ rfl; (with_reducible repeat (first | refine blk_drewN ?_ _ | refine blk_drew ?_ | refine blk_alloc ?_ _)); refine blk_put (cs := #[.string (⟨#[]⟩ : ByteArray), .string (⟨#[]⟩ : ByteArray), .string (⟨#[]⟩ : ByteArray), .string (⟨#[]⟩ : ByteArray)]) ?_ 2 _ rfl; (with_reducible repeat (first | refine blk_drewN ?_ _ | refine blk_drew ?_ | refine blk_alloc ?_ _)); refine blk_put (cs := #[.string (⟨#[]⟩ : ByteArray), .string (⟨#[]⟩ : ByteArray), .string (⟨#[]⟩ : ByteArray), .string (⟨#[]⟩ : ByteArray)]) ?_ 1 _ rfl; (with_reducible repeat (first | refine blk_drewN ?_ _ | refine blk_drew ?_ | refine blk_alloc ?_ _)); refine blk_put (cs := #[.string (⟨#[]⟩ : ByteArray), .string (⟨#[]⟩ : ByteArray), .string (⟨#[]⟩ : ByteArray), .string (⟨#[]⟩ : ByteArray)]) ?_ 0 _ rfl; (with_reducible repeat (first | refine blk_drewN ?_ _ | refine blk_drew ?_ | refine blk_alloc ?_ _)); exact BK130.out) Try.underlying23 rfl (by kernel_rfl)) rfl ?_
     exact ⟨by first | rfl | (simp [errW_none, errW_some] <;> rfl) | (simp [*, errW_none, errW_some] <;> rfl) | (simp [bneNil]; done), by repeat (first | (with_reducible first | exact HB.out | apply below_alloc | apply pw_below_drewN | apply below_drew1 | refine below_set ?_ GE130.out) | exact HB.out)⟩
 ·
  replace c3 := Bool.eq_false_iff.mpr c3
  subst c3
  have H1 : ((spec_refWrong.f k a0).bind fun t135 => (some ((⟨#[]⟩ : ByteArray), (⟨#[]⟩ : ByteArray), (⟨#[]⟩ : ByteArray), (⟨#[]⟩ : ByteArray), t135))) = some (r1, r2, r3, r4, r5) := by rw [if_neg (show ¬ (false = true) by decide)] at H; exact H
  clear H
  have H := H1
  clear H1
  replace H := Option.bind_eq_some_iff.mp H
  obtain ⟨t135, A270, H⟩ := H
  replace H : (some ((⟨#[]⟩ : ByteArray), (⟨#[]⟩ : ByteArray), (⟨#[]⟩ : ByteArray), (⟨#[]⟩ : ByteArray), t135)) = some (r1, r2, r3, r4, r5) := H
  have A27 := Aside0.mk A270
  clear A270
  simp only [Option.some.injEq, Prod.mk.injEq] at H
  obtain ⟨rfl, rfl, rfl, rfl, rfl⟩ := H
  go_enter Try.func7, Try.ntmps7
  go_wp2_with (first | ((with_reducible refine gate_dst (N := 2) rfl ?_); refine box_event ?hg (N := 2) ?hd (cs := #[.string (⟨#[]⟩ : ByteArray), .string (⟨#[]⟩ : ByteArray), .string (⟨#[]⟩ : ByteArray), .string (⟨#[]⟩ : ByteArray)]) (t := 23) ?hr ?_; (case hd => rfl); (case hg => rfl); (case hr => first | (go_simp; done) | (go_simp; rfl) | (go_simp; simp [u8w]; done)); intro gb130 hg w28 hbox hb; have n0_ := Aside0.mk (below_step (by repeat (first | (with_reducible first | exact HB.out | apply below_alloc | apply pw_below_drewN | apply below_drew1) | exact HB.out)) hb); have n1_ := Aside0.mk (hbox); have n2_ := Aside0.mk ((by rw [hg]; exact (below_size (by repeat (first | (with_reducible first | exact HB.out | apply below_alloc | apply pw_below_drewN | apply below_drew1) | exact HB.out))) : w.heap.size ≤ gb130)); have n3_ := Aside0.mk ((by rw [hg]; exact (below_size (by repeat (first | (with_reducible first | exact HB.out | apply below_alloc | apply pw_below_drewN | apply below_drew1) | exact HB.out))) : w.heap.size ≤ gb130)); clear HB; have HB := n0_; have BK130 := n1_; have GW130 := n2_; have GE130 := n3_; clear n0_ n1_ n2_ n3_; clear hb hbox hg) | ((with_reducible refine gate_callee (f := 10) rfl ?_); refine goesL_ (some 14) rfl rfl Try.func10 (by kernel_rfl) rfl #[.string a0] rfl (by (try simp only [List.map_toArray, List.map_cons, List.map_nil]); first | done | rfl | (simp only [List.length_drop, List.length_take]; rfl)) ?_; (with_reducible refine (spec_RefGroups.calls k a0 t131 t132 t133 false _ A2.out).mono ?_); rintro e w29 ⟨rfl, hb⟩; refine ⟨_, rfl, ?_⟩; have n0_ := Aside0.mk (blk_below (g := gb130) (o := .cells #[.string (⟨#[]⟩ : ByteArray), .string (⟨#[]⟩ : ByteArray), .string (⟨#[]⟩ : ByteArray), .string (⟨#[]⟩ : ByteArray)] 23 (0, 0)) (by (with_reducible repeat (first | refine blk_drewN ?_ _ | refine blk_drew ?_ | refine blk_alloc ?_ _)); exact BK130.out) hb); have n1_ := Aside0.mk (below_step (by repeat (first | (with_reducible first | exact HB.out | apply below_alloc | apply pw_below_drewN | apply below_drew1 | refine below_set ?_ GE130.out) | exact HB.out)) hb); clear BK130; clear HB; have BK130 := n0_; have HB := n1_; clear n0_ n1_; (try clear hb); (try clear hb2); (try clear hk); (try clear hi)) | ((with_reducible refine gate_callee (f := 11) rfl ?_); refine goesL_ (some 23) rfl rfl Try.func11 (by kernel_rfl) rfl #[.string a0] rfl (by (try simp only [List.map_toArray, List.map_cons, List.map_nil]); first | done | rfl | (simp only [List.length_drop, List.length_take]; rfl)) ?_; (with_reducible refine (spec_refWrong.calls k a0 t135 _ A27.out).mono ?_); rintro e w30 ⟨rfl, hb⟩; refine ⟨_, rfl, ?_⟩; have n0_ := Aside0.mk (blk_below (g := gb130) (o := .cells #[.string (⟨#[]⟩ : ByteArray), .string (⟨#[]⟩ : ByteArray), .string (⟨#[]⟩ : ByteArray), .string (⟨#[]⟩ : ByteArray)] 23 (0, 0)) (by (with_reducible repeat (first | refine blk_drewN ?_ _ | refine blk_drew ?_ | refine blk_alloc ?_ _)); exact BK130.out) hb); have n1_ := Aside0.mk (below_step (by repeat (first | (with_reducible first | exact HB.out | apply below_alloc | apply pw_below_drewN | apply below_drew1 | refine below_set ?_ GE130.out) | exact HB.out)) hb); clear BK130; clear HB; have BK130 := n0_; have HB := n1_; clear n0_ n1_; (try clear hb); (try clear hb2); (try clear hk); (try clear hi); have hcz31_0 : w30.cell? ⟨gb130, 0, none⟩ = some (.string (⟨#[]⟩ : ByteArray)) := (blk_cell BK130.out 0).trans rfl; have hcz31_1 : w30.cell? ⟨gb130, 1, none⟩ = some (.string (⟨#[]⟩ : ByteArray)) := (blk_cell BK130.out 1).trans rfl; have hcz31_2 : w30.cell? ⟨gb130, 2, none⟩ = some (.string (⟨#[]⟩ : ByteArray)) := (blk_cell BK130.out 2).trans rfl; have hcz31_3 : w30.cell? ⟨gb130, 3, none⟩ = some (.string (⟨#[]⟩ : ByteArray)) := (blk_cell BK130.out 3).trans rfl; have hfz31_0 := blk_frozen BK130.out 0; have hfz31_1 := blk_frozen BK130.out 1; have hfz31_2 := blk_frozen BK130.out 2; have hfz31_3 := blk_frozen BK130.out 3))
  refine bodyPost_ret (results_ct rfl _ _ gb130 23 #[.string (⟨#[]⟩ : ByteArray), .string (⟨#[]⟩ : ByteArray), .string (⟨#[]⟩ : ByteArray), .string (⟨#[]⟩ : ByteArray)] (0, 0) _ rfl (by (with_reducible repeat (first | refine blk_drewN ?_ _ | refine blk_drew ?_ | refine blk_alloc ?_ _)); refine blk_put (cs := #[.string (⟨#[]⟩ : ByteArray), .string (⟨#[]⟩ : ByteArray), .string (⟨#[]⟩ : ByteArray), .string (⟨#[]⟩ : ByteArray)]) ?_ 3 _ rfl; (with_reducible repeat (first | refine blk_drewN ?_ _ | refine blk_drew ?_ | refine blk_alloc ?_ _)); refine blk_put (cs := #[.string (⟨#[]⟩ : ByteArray), .string (⟨#[]⟩ : ByteArray), .string (⟨#[]⟩ : ByteArray), .string (⟨#[]⟩ : ByteArray)]) ?_ 2 _ rfl; (with_reducible repeat (first | refine blk_drewN ?_ _ | refine blk_drew ?_ | refine blk_alloc ?_ _)); refine blk_put (cs := #[.string (⟨#[]⟩ : ByteArray), .string (⟨#[]⟩ : ByteArray), .string (⟨#[]⟩ : ByteArray), .string (⟨#[]⟩ : ByteArray)]) ?_ 1 _ rfl; (with_reducible repeat (first | refine blk_drewN ?_ _ | refine blk_drew ?_ | refine blk_alloc ?_ _)); refine blk_put (cs := #[.string (⟨#[]⟩ : ByteArray), .string (⟨#[]⟩ : ByteArray), .string (⟨#[]⟩ : ByteArray), .string (⟨#[]⟩ : ByteArray)]) ?_ 0 _ rfl; (with_reducible repeat (first | refine blk_drewN ?_ _ | refine blk_drew ?_ | refine blk_alloc ?_ _)); exact BK130.out) Try.underlying23 rfl (by kernel_rfl)) rfl ?_
  exact ⟨by first | rfl | (simp [errW_none, errW_some] <;> rfl) | (simp [*, errW_none, errW_some] <;> rfl) | (simp [bneNil]; done), by repeat (first | (with_reducible first | exact HB.out | apply below_alloc | apply pw_below_drewN | apply below_drew1 | refine below_set ?_ GE130.out) | exact HB.out)⟩

end Go.Proofs.Ytmlcpnehihmhaaa.PX
namespace Go.Proofs.Ytmlcpnehihmhaaa.Gr

open Go Go.RowKit Go.Lib Go.Proofs Go.Proofs.Ytmlcpnehihmhaaa Go.Proofs.Ytmlcpnehihmhaaa.L Go.Proofs.Ytmlcpnehihmhaaa.Bt Go.Proofs.Ytmlcpnehihmhaaa.PX

open Go.Proofs.YtmlcpnehihmhaaaW.PrintWords Go.Proofs.YtmlcpnehihmhaaaW.PrintLast Go.Proofs.YtmlcpnehihmhaaaW.PrintMore

abbrev E0 : ByteArray := ⟨#[]⟩

theorem ex_sz (s : ByteArray) (a b : Nat) (h : b ≤ s.size) : (s.extract a b).size = b - a := by rw [ByteArray.size_extract]; omega

theorem path_f (s : ByteArray) (h : s.size ≤ 1099511627776) : spec_RefPath.f s = some (pathB s) := by unfold spec_RefPath.f; rw [if_pos h]

theorem dom_f (s : ByteArray) (h : s.size ≤ 1099511627776) : spec_RefIsDomain.f s = some (domB s) := by unfold spec_RefIsDomain.f; rw [if_pos h]

theorem tag_f (s : ByteArray) (h : s.size ≤ 1099511627776) : spec_RefIsTag.f s = some (tagB s) := by unfold spec_RefIsTag.f; rw [if_pos h]

theorem digest_f (s : ByteArray) (h : s.size ≤ 1099511627776) : spec_RefIsDigest.f s = some (digestB s) := by unfold spec_RefIsDigest.f; rw [if_pos h]

theorem form_f (s : ByteArray) (h : s.size ≤ 1099511627776) : spec_DigestForm.f s = some (formB s) := by unfold spec_DigestForm.f; rw [if_pos h]

theorem fits_f (a s : ByteArray) (h : s.size ≤ 1099511627776) : spec_DigestFits.f a s = some (fitsI a s) := by unfold spec_DigestFits.f; rw [if_pos h]

/-- A name's domain and path. -/
def nameG (s : ByteArray) : ByteArray × ByteArray × Bool := match fst 47 (bl s) with
  | none => if pathB s = true then (E0, s, true) else (E0, E0, false)
  | some j => if (domB (s.extract 0 j) && pathB (s.extract (j + 1) s.size)) = true then (s.extract 0 j, s.extract (j + 1) s.size, true) else if pathB s = true then (E0, s, true) else (E0, E0, false)

theorem name_f (s : ByteArray) (hs : s.size ≤ 1099511627776) (k : Nat) (hk : s.size + 1 < k) : spec_RefNameGroups.f k s = some (nameG s) := by
  have J0 : ∀ (x : Int) m, 0 < m → spec_RefNameGroups.j0 m s x false = some (if pathB s = true then (E0, s, true) else (E0, E0, false)) := by
    intro x m hm
    obtain ⟨m, rfl⟩ : ∃ q, m = q + 1 := ⟨m - 1, by omega⟩
    simp only [spec_RefNameGroups.j0]
    rw [if_neg (by simp), path_f s hs]
    simp only [Option.bind_some]
    cases pathB s <;> rfl
  unfold spec_RefNameGroups.f
  rw [show ((47 : Int)) = (((47 : UInt8).toNat : Nat) : Int) from rfl, first_f s 47 hs k (by omega)]
  simp only [Option.bind_some]
  unfold fstI nameG
  cases e : fst 47 (bl s) with
  | none =>
    simp only
    rw [if_neg (by omega), J0 _ k (by omega)]
  | some j =>
    have hj := fst_lt 47 _ j e
    rw [bl_len] at hj
    simp only [Nat.zero_add]
    rw [if_pos (by omega), if_pos (by omega), if_pos (by omega), Int.toNat_natCast, dom_f _ (by rw [ex_sz _ _ _ (by omega)]; omega)]
    simp only [Option.bind_some]
    cases domB (s.extract 0 j) with
    | false =>
      rw [if_neg (by simp), J0 _ k (by omega)]
      rfl
    | true =>
      rw [if_pos rfl, w1 j (by omega), if_pos (by omega), if_pos (by omega), Int.toNat_natCast, path_f _ (by rw [ex_sz _ _ _ (by omega)]; omega)]
      simp only [Option.bind_some]
      cases pathB (s.extract (j + 1) s.size) with
      | false => rw [J0 _ k (by omega)]; rfl
      | true =>
        obtain ⟨k, rfl⟩ : ∃ q, k = q + 1 := ⟨k - 1, by omega⟩
        simp only [spec_RefNameGroups.j0]
        rw [if_pos trivial, if_pos (by omega), if_pos (by omega), w1 j (by omega), if_pos (by omega), if_pos (by omega), Int.toNat_natCast, Int.toNat_natCast]
        rfl

theorem isName_f (s : ByteArray) (hs : s.size ≤ 1099511627776) (k : Nat) (hk : s.size + 1 < k) : spec_RefIsName.f k s = some (nameG s).2.2 := by
  unfold spec_RefIsName.f
  rw [name_f s hs k hk]; rfl

/-- A name and a tag, from a place of the colon on. -/
def tagF (s dg : ByteArray) : Nat → Nat → ByteArray × ByteArray × ByteArray × Bool
  | 0, _ => (E0, E0, E0, false)
  | n + 1, i => if ((bt s (i : Int) == 58) && tagB (s.extract (i + 1) s.size) && (nameG (s.extract 0 i)).2.2) = true then (s.extract 0 i, s.extract (i + 1) s.size, dg, true) else tagF s dg n (i + 1)

def restG (s dg : ByteArray) : ByteArray × ByteArray × ByteArray × Bool := if (nameG s).2.2 = true then (s, E0, dg, true) else tagF s dg s.size 0

def groupsG (s : ByteArray) : ByteArray × ByteArray × ByteArray × Bool := match fst 64 (bl s) with
  | none => restG s E0
  | some j => if digestB (s.extract (j + 1) s.size) = true then restG (s.extract 0 j) (s.extract (j + 1) s.size) else (E0, E0, E0, false)

theorem tag_l (s dg : ByteArray) (hs : s.size ≤ 1099511627776) : ∀ d i k, i + d = s.size → s.size + d + 1 < k → spec_RefGroups.l0 k s dg (i : Int) = some (tagF s dg d i) := by
  intro d
  induction d with
  | zero =>
    intro i k hi hk
    obtain ⟨k, rfl⟩ : ∃ q, k = q + 1 := ⟨k - 1, by omega⟩
    simp only [spec_RefGroups.l0]
    rw [if_neg (by omega)]
    rfl
  | succ d ih =>
    intro i k hi hk
    obtain ⟨k, rfl⟩ : ∃ q, k = q + 1 := ⟨k - 1, by omega⟩
    have ih1 := ih (i + 1) k (by omega) (by omega)
    simp only [spec_RefGroups.l0]
    rw [if_pos (by omega), if_pos (by omega), w1 i (by omega), tagF]
    by_cases e : bt s (i : Int) = 58
    · rw [if_pos e, if_pos (by omega), if_pos (by omega), Int.toNat_natCast, Int.toNat_natCast, tag_f _ (by rw [ex_sz _ _ _ (by omega)]; omega), e]
      simp only [Option.bind_some]
      cases tagB (s.extract (i + 1) s.size) with
      | false => rw [if_neg (by simp), ih1]; rfl
      | true =>
        rw [if_pos rfl, if_pos (by omega), isName_f _ (by rw [ex_sz _ _ _ (by omega)]; omega) k (by rw [ex_sz _ _ _ (by omega)]; omega)]
        simp only [Option.bind_some]
        cases (nameG (s.extract 0 i)).2.2 with
        | false => rw [if_neg (by simp), ih1]; rfl
        | true => rfl
    · rw [if_neg e, ih1, beq_eq_false_iff_ne.2 e]
      rfl

theorem rest_f (s dg : ByteArray) (hs : s.size ≤ 1099511627776) (k : Nat) (hk : 2 * s.size + 2 < k) : spec_RefGroups.j0 k s dg = some (restG s dg) := by
  obtain ⟨k, rfl⟩ : ∃ q, k = q + 1 := ⟨k - 1, by omega⟩
  simp only [spec_RefGroups.j0]
  rw [isName_f s hs k (by omega)]
  simp only [Option.bind_some]
  unfold restG
  cases (nameG s).2.2 with
  | true => rfl
  | false => rw [if_neg (by simp), show (0 : Int) = ((0 : Nat) : Int) from rfl, tag_l s dg hs s.size 0 k (by omega) (by omega)]; rfl

theorem groups_f (s : ByteArray) (hs : s.size ≤ 1099511627776) (k : Nat) (hk : 2 * s.size + 2 < k) : spec_RefGroups.f k s = some (groupsG s) := by
  unfold spec_RefGroups.f
  rw [show ((64 : Int)) = (((64 : UInt8).toNat : Nat) : Int) from rfl, first_f s 64 hs k (by omega)]
  simp only [Option.bind_some]
  unfold fstI groupsG
  cases e : fst 64 (bl s) with
  | none =>
    simp only
    rw [if_neg (by omega), rest_f s _ hs k hk]
  | some j =>
    have hj := fst_lt 64 _ j e
    rw [bl_len] at hj
    simp only [Nat.zero_add]
    rw [if_pos (by omega), if_pos (by omega), if_pos (by omega), w1 j (by omega), if_pos (by omega), if_pos (by omega), Int.toNat_natCast, Int.toNat_natCast, digest_f _ (by rw [ex_sz _ _ _ (by omega)]; omega)]
    simp only [Option.bind_some]
    cases digestB (s.extract (j + 1) s.size) with
    | false => rfl
    | true => rw [if_pos rfl, rest_f _ _ (by rw [ex_sz _ _ _ (by omega)]; omega) k (by rw [ex_sz _ _ _ (by omega)]; omega)]; rfl

/-- What is wrong with a digest. -/
def checkI (s : ByteArray) : Int := match fst 58 (bl s) with
  | none => 3
  | some j => if j < 1 ∨ j + 1 = s.size then 3 else if sizeD (s.extract 0 j) = 0 ∧ formB s = false then 3 else fitsI (s.extract 0 j) (s.extract (j + 1) s.size)

theorem check_f (s : ByteArray) (hs : s.size ≤ 1099511627776) (k : Nat) (hk : s.size + 1 < k) : spec_DigestCheck.f k s = some (checkI s) := by
  have hT : ∀ x, spec_DigestCheck.j0 k s x true = some 3 := by
    intro x
    obtain ⟨k, rfl⟩ : ∃ q, k = q + 1 := ⟨k - 1, by omega⟩
    simp only [spec_DigestCheck.j0]; rfl
  unfold spec_DigestCheck.f
  rw [show ((58 : Int)) = (((58 : UInt8).toNat : Nat) : Int) from rfl, first_f s 58 hs k (by omega)]
  simp only [Option.bind_some]
  unfold fstI checkI
  cases e : fst 58 (bl s) with
  | none =>
    simp only
    rw [if_pos (by omega), hT]
  | some j =>
    have hj := fst_lt 58 _ j e
    rw [bl_len] at hj
    simp only [Nat.zero_add]
    by_cases h1 : j < 1
    · rw [if_pos (by omega), hT, if_pos (Or.inl h1)]
    · rw [if_neg (by omega), w1 j (by omega)]
      by_cases h2 : j + 1 = s.size
      · rw [show ((((j + 1 : Nat) : Int)) == (s.size : Int)) = true by rw [beq_iff_eq]; omega, hT, if_pos (Or.inr h2)]
      · rw [show ((((j + 1 : Nat) : Int)) == (s.size : Int)) = false by rw [beq_eq_false_iff_ne]; omega, if_neg (by omega)]
        obtain ⟨k, rfl⟩ : ∃ q, k = q + 1 := ⟨k - 1, by omega⟩
        simp only [spec_DigestCheck.j0]
        rw [if_neg (by simp), if_pos (by omega), if_pos (by omega), Int.toNat_natCast, (sizeD_f _).1]
        simp only [Option.bind_some]
        rw [w1 j (by omega), if_pos (by omega : (0 : Int) ≤ ((j + 1 : Nat) : Int)), if_pos (by omega : ((j + 1 : Nat) : Int) ≤ (s.size : Int)), Int.toNat_natCast, fits_f _ _ (by rw [ex_sz _ _ _ (by omega)]; omega)]
        simp only [Option.bind_some]
        by_cases h3 : sizeD (s.extract 0 j) = 0
        · rw [if_pos h3, form_f s hs]
          simp only [Option.bind_some]
          cases h4 : formB s with
          | true => rw [if_pos rfl, if_neg (by simp)]
          | false => rw [if_neg (by simp), if_pos ⟨h3, rfl⟩]
        · rw [if_neg h3, if_neg (fun q => h3 q.1)]

/-- What a text without an error is parsed to. -/
def okP (s : ByteArray) : ByteArray × ByteArray × ByteArray × ByteArray × Int := ((nameG (groupsG s).1).1, (nameG (groupsG s).1).2.1, (groupsG s).2.1, (groupsG s).2.2.1, 0)

theorem tagF_sz (s dg : ByteArray) : ∀ d i, i + d ≤ s.size → (tagF s dg d i).1.size ≤ s.size ∧ (tagF s dg d i).2.2.1.size ≤ dg.size := by
  intro d
  induction d with
  | zero => intro i _; exact ⟨Nat.zero_le _, Nat.zero_le _⟩
  | succ d ih =>
    intro i hi
    rw [tagF]
    split
    · exact ⟨by show (s.extract 0 i).size ≤ _; rw [ex_sz _ _ _ (by omega)]; omega, Nat.le_refl _⟩
    · exact ih (i + 1) (by omega)

theorem groups_sz (s : ByteArray) : (groupsG s).1.size ≤ s.size ∧ (groupsG s).2.2.1.size ≤ s.size := by
  have R : ∀ x dg : ByteArray, (restG x dg).1.size ≤ x.size ∧ (restG x dg).2.2.1.size ≤ dg.size := by
    intro x dg
    unfold restG
    split
    · exact ⟨Nat.le_refl _, Nat.le_refl _⟩
    · exact tagF_sz x dg _ 0 (by omega)
  unfold groupsG
  cases e : fst 64 (bl s) with
  | none => exact ⟨(R s E0).1, Nat.le_trans (R s E0).2 (Nat.zero_le _)⟩
  | some j =>
    have hj := fst_lt 64 _ j e
    rw [bl_len] at hj
    simp only
    split
    · have := R (s.extract 0 j) (s.extract (j + 1) s.size)
      rw [ex_sz _ _ _ (by omega), ex_sz _ _ _ (by omega)] at this
      omega
    · exact ⟨Nat.zero_le _, Nat.zero_le _⟩

theorem tagF_ok (s dg : ByteArray) : ∀ d i, (tagF s dg d i).2.2.2 = true → (nameG (tagF s dg d i).1).2.2 = true := by
  intro d
  induction d with
  | zero => intro i h; cases h
  | succ d ih =>
    intro i h
    rw [tagF] at h ⊢
    split at h
    · rename_i hc
      rw [if_pos hc]
      rw [Bool.and_eq_true] at hc
      exact hc.2
    · rename_i hc
      rw [if_neg hc]
      exact ih _ h

theorem groups_ok (s : ByteArray) (h : (groupsG s).2.2.2 = true) : (nameG (groupsG s).1).2.2 = true := by
  have R : ∀ x dg : ByteArray, (restG x dg).2.2.2 = true → (nameG (restG x dg).1).2.2 = true := by
    intro x dg hx
    unfold restG at hx ⊢
    split at hx
    · rename_i hc; rw [if_pos hc]; exact hc
    · rename_i hc; rw [if_neg hc]; exact tagF_ok _ _ _ _ hx
  unfold groupsG at h ⊢
  cases e : fst 64 (bl s) with
  | none => rw [e] at h; exact R _ _ h
  | some j =>
    rw [e] at h
    simp only at h ⊢
    split at h
    · rename_i hc; rw [if_pos hc]; exact R _ _ h
    · cases h

theorem comp_ne (x : ByteArray) (h : compB x = true) : bl x ≠ [] := by
  intro e
  unfold compB at h
  rw [e] at h
  simp [runN] at h

theorem path_ne (x : ByteArray) (h : pathB x = true) : bl x ≠ [] := by
  intro e
  unfold pathB at h
  rw [e] at h
  have : compB (ofL []) = true := by simpa [splitL] using h
  exact comp_ne _ this rfl

theorem name_ne (s : ByteArray) (h : (nameG s).2.2 = true) : bl (nameG s).2.1 ≠ [] := by
  unfold nameG at h ⊢
  cases e : fst 47 (bl s) with
  | none =>
    rw [e] at h
    simp only at h ⊢
    split at h
    · rename_i hc; rw [if_pos hc]; exact path_ne _ hc
    · cases h
  | some j =>
    rw [e] at h
    simp only at h ⊢
    split at h
    · rename_i hc
      rw [if_pos hc]
      rw [Bool.and_eq_true] at hc
      exact path_ne _ hc.2
    · rename_i hc
      rw [if_neg hc]
      split at h
      · rename_i hd; rw [if_pos hd]; exact path_ne _ hd
      · cases h

theorem wrong_f (s : ByteArray) (hs : s.size ≤ 1099511627776) (k : Nat) (hk : 2 * s.size + 2 < k) : ∃ r, spec_refWrong.f k s = some r ∧ r ≠ 0 := by
  unfold spec_refWrong.f
  split
  · exact ⟨5, rfl, by omega⟩
  · obtain ⟨t, ht, hz⟩ := small_f s hs k (by omega)
    rw [ht]
    simp only [Option.bind_some]
    rw [groups_f t (by omega) k (by omega)]
    simp only [Option.bind_some]
    split
    · exact ⟨4, rfl, by omega⟩
    · exact ⟨1, rfl, by omega⟩

theorem parse_f (s : ByteArray) (hs : s.size ≤ 1099511627776) (k : Nat) (hk : 2 * s.size + 2 < k) : ∃ r, spec_RefParse.f k s = some r ∧ (r.2.2.2.2 = 0 → r = okP s ∧ bl r.2.1 ≠ []) := by
  unfold spec_RefParse.f
  rw [groups_f s hs k hk]
  simp only [Option.bind_some]
  have hz := groups_sz s
  cases hg : (groupsG s).2.2.2 with
  | false =>
    rw [if_neg (by simp)]
    obtain ⟨r, hr, h0⟩ := wrong_f s hs k hk
    rw [hr]
    exact ⟨_, rfl, fun q => absurd q h0⟩
  | true =>
    have hn := name_ne _ (groups_ok s hg)
    rw [if_pos rfl, name_f _ (by omega) k (by omega)]
    simp only [Option.bind_some]
    split
    · exact ⟨_, rfl, fun q => by cases q⟩
    · split
      · exact ⟨_, rfl, fun _ => ⟨rfl, hn⟩⟩
      · rw [check_f _ (by omega) k (by omega)]
        simp only [Option.bind_some]
        split
        · exact ⟨_, rfl, fun _ => ⟨rfl, hn⟩⟩
        · rename_i h0
          exact ⟨_, rfl, fun q => absurd q h0⟩

end Go.Proofs.Ytmlcpnehihmhaaa.Gr
namespace Go.Proofs.Ytmlcpnehihmhaaa.PX

open Go.RowKit Go.Proofs.YtmlcpnehihmhaaaW.PrintWords Go.Proofs.YtmlcpnehihmhaaaW.PrintLast Go.Proofs.YtmlcpnehihmhaaaW.PrintMore

attribute [local go_sem] max2_int min2_int max_two min_two max_three min_three max_four min_four   -- for this text's walks alone

set_option linter.unusedVariables false

set_option linter.unusedSimpArgs false

attribute [local go_sem high] eqA23

def laws_refGood.f (k : Nat) (a0_0 : ByteArray) (a0_1 : ByteArray) (a0_2 : ByteArray) (a0_3 : ByteArray) : Option (Bool) := (spec_RefText.f a0_0 a0_1 a0_2 a0_3).bind fun t144 => ((spec_RefParse.f k t144).bind fun bt145 => (if bt145.2.2.2.2 = 0 then (some (bt145.1.toList == a0_0.toList && (bt145.2.1.toList == a0_1.toList && (bt145.2.2.1.toList == a0_2.toList && (bt145.2.2.2.1.toList == a0_3.toList))))) else (some false)))

set_option maxHeartbeats 80000000 in
set_option maxRecDepth 100000 in
theorem laws_refGood.calls (k : Nat) (a0_0 : ByteArray) (a0_1 : ByteArray) (a0_2 : ByteArray) (a0_3 : ByteArray) (r : Bool) (w : World) (h : laws_refGood.f k a0_0 a0_1 a0_2 a0_3 = some r) :
  Calls Try.prog 5 #[.agg #[.string a0_0, .string a0_1, .string a0_2, .string a0_3]] w fun e w' => e = .returned (.bool r) ∧ Below w.heap.size w w' := by
 have hu23 := Try.underlying23
 have HB := Aside0.mk (Below.refl w.heap.size w)
 have H : ((spec_RefText.f a0_0 a0_1 a0_2 a0_3).bind fun t144 => ((spec_RefParse.f k t144).bind fun bt145 => (if bt145.2.2.2.2 = 0 then (some (bt145.1.toList == a0_0.toList && (bt145.2.1.toList == a0_1.toList && (bt145.2.2.1.toList == a0_2.toList && (bt145.2.2.2.1.toList == a0_3.toList))))) else (some false)))) = some r := h
 clear h
 replace H := Option.bind_eq_some_iff.mp H
 obtain ⟨t144, A20, H⟩ := H
 replace H : ((spec_RefParse.f k t144).bind fun bt145 => (if bt145.2.2.2.2 = 0 then (some (bt145.1.toList == a0_0.toList && (bt145.2.1.toList == a0_1.toList && (bt145.2.2.1.toList == a0_2.toList && (bt145.2.2.2.1.toList == a0_3.toList))))) else (some false))) = some r := H
 have A2 := Aside0.mk A20
 clear A20
 replace H := Option.bind_eq_some_iff.mp H
 obtain ⟨⟨t145, t146, t147, t148, t149⟩, A30, H⟩ := H
 replace H : (if t149 = 0 then (some (t145.toList == a0_0.toList && (t146.toList == a0_1.toList && (t147.toList == a0_2.toList && (t148.toList == a0_3.toList))))) else (some false)) = some r := H
 have A3 := Aside0.mk A30
 clear A30
 by_cases c4 : t149 = 0
 ·
  rw [if_pos c4] at H
  have c4b0 : (t149 == 0) = true := beq_iff_eq.mpr c4
  have c4b1 : (t149 != 0) = false := bne_eq_false_iff_eq.mpr c4
  clear c4
  obtain rfl := Option.some.inj H
  go_enter Try.func5, Try.ntmps5
  go_wp2_with (first | ((with_reducible refine gate_dst (N := 1) rfl ?_); refine box_event ?hg (N := 1) ?hd (cs := #[.string a0_0, .string a0_1, .string a0_2, .string a0_3]) (t := 23) ?hr ?_; (case hd => rfl); (case hg => rfl); (case hr => first | (go_simp; done) | (go_simp; rfl) | (go_simp; simp [u8w]; done)); intro gb143 hg w5 hbox hb; have n0_ := Aside0.mk (below_step (by repeat (first | (with_reducible first | exact HB.out | apply below_alloc | apply pw_below_drewN | apply below_drew1) | exact HB.out)) hb); have n1_ := Aside0.mk (hbox); have n2_ := Aside0.mk ((by rw [hg]; exact (below_size (by repeat (first | (with_reducible first | exact HB.out | apply below_alloc | apply pw_below_drewN | apply below_drew1) | exact HB.out))) : w.heap.size ≤ gb143)); have n3_ := Aside0.mk ((by rw [hg]; exact (below_size (by repeat (first | (with_reducible first | exact HB.out | apply below_alloc | apply pw_below_drewN | apply below_drew1) | exact HB.out))) : w.heap.size ≤ gb143)); clear HB; have HB := n0_; have BK143 := n1_; have GW143 := n2_; have GE143 := n3_; clear n0_ n1_ n2_ n3_; clear hb hbox hg; have hcz6_0 : w5.cell? ⟨gb143, 0, none⟩ = some (.string a0_0) := (blk_cell BK143.out 0).trans rfl; have hcz6_1 : w5.cell? ⟨gb143, 1, none⟩ = some (.string a0_1) := (blk_cell BK143.out 1).trans rfl; have hcz6_2 : w5.cell? ⟨gb143, 2, none⟩ = some (.string a0_2) := (blk_cell BK143.out 2).trans rfl; have hcz6_3 : w5.cell? ⟨gb143, 3, none⟩ = some (.string a0_3) := (blk_cell BK143.out 3).trans rfl; have hfz6_0 := blk_frozen BK143.out 0; have hfz6_1 := blk_frozen BK143.out 1; have hfz6_2 := blk_frozen BK143.out 2; have hfz6_3 := blk_frozen BK143.out 3) | ((with_reducible refine gate_callee (f := 8) rfl ?_); refine goesL_ (some 7) rfl rfl Try.func8 (by kernel_rfl) rfl #[.agg #[.string a0_0, .string a0_1, .string a0_2, .string a0_3]] rfl (by (try simp only [List.map_toArray, List.map_cons, List.map_nil]); first | done | rfl | (simp only [List.length_drop, List.length_take]; rfl)) ?_; (with_reducible refine (spec_RefText.calls a0_0 a0_1 a0_2 a0_3 t144 _ A2.out).mono ?_); rintro e w7 ⟨rfl, hb⟩; refine ⟨_, rfl, ?_⟩; have n0_ := Aside0.mk (blk_below (g := gb143) (o := .cells #[.string a0_0, .string a0_1, .string a0_2, .string a0_3] 23 (0, 0)) (by (with_reducible repeat (first | refine blk_drewN ?_ _ | refine blk_drew ?_ | refine blk_alloc ?_ _)); exact BK143.out) hb); have n1_ := Aside0.mk (below_step (by repeat (first | (with_reducible first | exact HB.out | apply below_alloc | apply pw_below_drewN | apply below_drew1 | refine below_set ?_ GE143.out) | exact HB.out)) hb); clear BK143; clear HB; have BK143 := n0_; have HB := n1_; clear n0_ n1_; (try clear hb); (try clear hb2); (try clear hk); (try clear hi)) | ((with_reducible refine gate_callee (f := 7) rfl ?_); refine goesL_ (some 8) rfl rfl Try.func7 (by kernel_rfl) rfl #[.string t144] rfl (by (try simp only [List.map_toArray, List.map_cons, List.map_nil]); first | done | rfl | (simp only [List.length_drop, List.length_take]; rfl)) ?_; (with_reducible refine (spec_RefParse.calls k t144 t145 t146 t147 t148 t149 _ A3.out).mono ?_); rintro e w8 ⟨rfl, hb⟩; refine ⟨_, rfl, ?_⟩; have n0_ := Aside0.mk (blk_below (g := gb143) (o := .cells #[.string a0_0, .string a0_1, .string a0_2, .string a0_3] 23 (0, 0)) (by (with_reducible repeat (first | refine blk_drewN ?_ _ | refine blk_drew ?_ | refine blk_alloc ?_ _)); exact BK143.out) hb); have n1_ := Aside0.mk (below_step (by repeat (first | (with_reducible first | exact HB.out | apply below_alloc | apply pw_below_drewN | apply below_drew1 | refine below_set ?_ GE143.out) | exact HB.out)) hb); clear BK143; clear HB; have BK143 := n0_; have HB := n1_; clear n0_ n1_; (try clear hb); (try clear hb2); (try clear hk); (try clear hi)) | ((with_reducible refine gate_dst (N := 3) rfl ?_); refine box_event ?hg (N := 3) ?hd (cs := #[.string (⟨#[]⟩ : ByteArray), .string (⟨#[]⟩ : ByteArray), .string (⟨#[]⟩ : ByteArray), .string (⟨#[]⟩ : ByteArray)]) (t := 23) ?hr ?_; (case hd => rfl); (case hg => rfl); (case hr => first | (go_simp; done) | (go_simp; rfl) | (go_simp; simp [u8w]; done)); intro gb150 hg w9 hbox hb; have n0_ := Aside0.mk (blk_below (g := gb143) (o := .cells #[.string a0_0, .string a0_1, .string a0_2, .string a0_3] 23 (0, 0)) (by (with_reducible repeat (first | refine blk_drewN ?_ _ | refine blk_drew ?_ | refine blk_alloc ?_ _)); exact BK143.out) hb); have n1_ := Aside0.mk (below_step (by repeat (first | (with_reducible first | exact HB.out | apply below_alloc | apply pw_below_drewN | apply below_drew1 | refine below_set ?_ GE143.out) | exact HB.out)) hb); have n2_ := Aside0.mk (hbox); have n3_ := Aside0.mk ((by rw [hg]; exact (below_size (by repeat (first | (with_reducible first | exact HB.out | apply below_alloc | apply pw_below_drewN | apply below_drew1 | refine below_set ?_ GE143.out) | exact HB.out))) : w.heap.size ≤ gb150)); have n4_ := Aside0.mk ((by rw [hg]; exact (below_size (by repeat (first | (with_reducible first | exact HB.out | apply below_alloc | apply pw_below_drewN | apply below_drew1 | refine below_set ?_ GE143.out) | exact HB.out))) : w.heap.size ≤ gb150)); have n5_ := Aside0.mk ((by rw [hg]; exact Nat.ne_of_lt (blk_lt (g := gb143) (o := .cells #[.string a0_0, .string a0_1, .string a0_2, .string a0_3] 23 (0, 0)) (by (with_reducible repeat (first | refine blk_drewN ?_ _ | refine blk_drew ?_ | refine blk_alloc ?_ _)); exact BK143.out)) : gb143 ≠ gb150)); have n6_ := Aside0.mk ((by rw [hg]; exact Nat.ne_of_gt (blk_lt (g := gb143) (o := .cells #[.string a0_0, .string a0_1, .string a0_2, .string a0_3] 23 (0, 0)) (by (with_reducible repeat (first | refine blk_drewN ?_ _ | refine blk_drew ?_ | refine blk_alloc ?_ _)); exact BK143.out)) : gb150 ≠ gb143)); clear BK143; clear HB; have BK143 := n0_; have HB := n1_; have BK150 := n2_; have GW150 := n3_; have GE150 := n4_; have NB143_150 := n5_; have NB150_143 := n6_; clear n0_ n1_ n2_ n3_ n4_ n5_ n6_; clear hb hbox hg; have hnb10 := NB150_143.out; have hnc10 := NB143_150.out; have hcz11_0 : w9.cell? ⟨gb150, 0, none⟩ = some (.string (⟨#[]⟩ : ByteArray)) := (blk_cell BK150.out 0).trans rfl; have hcz11_1 : w9.cell? ⟨gb150, 1, none⟩ = some (.string (⟨#[]⟩ : ByteArray)) := (blk_cell BK150.out 1).trans rfl; have hcz11_2 : w9.cell? ⟨gb150, 2, none⟩ = some (.string (⟨#[]⟩ : ByteArray)) := (blk_cell BK150.out 2).trans rfl; have hcz11_3 : w9.cell? ⟨gb150, 3, none⟩ = some (.string (⟨#[]⟩ : ByteArray)) := (blk_cell BK150.out 3).trans rfl; have hfz11_0 := blk_frozen BK150.out 0; have hfz11_1 := blk_frozen BK150.out 1; have hfz11_2 := blk_frozen BK150.out 2; have hfz11_3 := blk_frozen BK150.out 3; have hcz12_0 : w9.cell? ⟨gb143, 0, none⟩ = some (.string a0_0) := (blk_cell BK143.out 0).trans rfl; have hcz12_1 : w9.cell? ⟨gb143, 1, none⟩ = some (.string a0_1) := (blk_cell BK143.out 1).trans rfl; have hcz12_2 : w9.cell? ⟨gb143, 2, none⟩ = some (.string a0_2) := (blk_cell BK143.out 2).trans rfl; have hcz12_3 : w9.cell? ⟨gb143, 3, none⟩ = some (.string a0_3) := (blk_cell BK143.out 3).trans rfl; have hfz12_0 := blk_frozen BK143.out 0; have hfz12_1 := blk_frozen BK143.out 1; have hfz12_2 := blk_frozen BK143.out 2; have hfz12_3 := blk_frozen BK143.out 3))
  go_ret
  exact ⟨by first | rfl | (simp [errW_none, errW_some] <;> rfl) | (simp [*, errW_none, errW_some] <;> rfl) | (simp [bneNil]; done), by repeat (first | (with_reducible first | exact HB.out | apply below_alloc | apply pw_below_drewN | apply below_drew1 | refine below_set ?_ GE143.out | refine below_set ?_ GE150.out) | exact HB.out)⟩
 ·
  rw [if_neg c4] at H
  have c4b0 : (t149 == 0) = false := beq_eq_false_iff_ne.mpr c4
  have c4b1 : (t149 != 0) = true := bne_iff_ne.mpr c4
  obtain rfl := Option.some.inj H
  go_enter Try.func5, Try.ntmps5
  go_wp2_with (first | ((with_reducible refine gate_dst (N := 1) rfl ?_); refine box_event ?hg (N := 1) ?hd (cs := #[.string a0_0, .string a0_1, .string a0_2, .string a0_3]) (t := 23) ?hr ?_; (case hd => rfl); (case hg => rfl); (case hr => first | (go_simp; done) | (go_simp; rfl) | (go_simp; simp [u8w]; done)); intro gb143 hg w13 hbox hb; have n0_ := Aside0.mk (below_step (by repeat (first | (with_reducible first | exact HB.out | apply below_alloc | apply pw_below_drewN | apply below_drew1) | exact HB.out)) hb); have n1_ := Aside0.mk (hbox); have n2_ := Aside0.mk ((by rw [hg]; exact (below_size (by repeat (first | (with_reducible first | exact HB.out | apply below_alloc | apply pw_below_drewN | apply below_drew1) | exact HB.out))) : w.heap.size ≤ gb143)); have n3_ := Aside0.mk ((by rw [hg]; exact (below_size (by repeat (first | (with_reducible first | exact HB.out | apply below_alloc | apply pw_below_drewN | apply below_drew1) | exact HB.out))) : w.heap.size ≤ gb143)); clear HB; have HB := n0_; have BK143 := n1_; have GW143 := n2_; have GE143 := n3_; clear n0_ n1_ n2_ n3_; clear hb hbox hg; have hcz14_0 : w13.cell? ⟨gb143, 0, none⟩ = some (.string a0_0) := (blk_cell BK143.out 0).trans rfl; have hcz14_1 : w13.cell? ⟨gb143, 1, none⟩ = some (.string a0_1) := (blk_cell BK143.out 1).trans rfl; have hcz14_2 : w13.cell? ⟨gb143, 2, none⟩ = some (.string a0_2) := (blk_cell BK143.out 2).trans rfl; have hcz14_3 : w13.cell? ⟨gb143, 3, none⟩ = some (.string a0_3) := (blk_cell BK143.out 3).trans rfl; have hfz14_0 := blk_frozen BK143.out 0; have hfz14_1 := blk_frozen BK143.out 1; have hfz14_2 := blk_frozen BK143.out 2; have hfz14_3 := blk_frozen BK143.out 3) | ((with_reducible refine gate_callee (f := 8) rfl ?_); refine goesL_ (some 7) rfl rfl Try.func8 (by kernel_rfl) rfl #[.agg #[.string a0_0, .string a0_1, .string a0_2, .string a0_3]] rfl (by (try simp only [List.map_toArray, List.map_cons, List.map_nil]); first | done | rfl | (simp only [List.length_drop, List.length_take]; rfl)) ?_; (with_reducible refine (spec_RefText.calls a0_0 a0_1 a0_2 a0_3 t144 _ A2.out).mono ?_); rintro e w15 ⟨rfl, hb⟩; refine ⟨_, rfl, ?_⟩; have n0_ := Aside0.mk (blk_below (g := gb143) (o := .cells #[.string a0_0, .string a0_1, .string a0_2, .string a0_3] 23 (0, 0)) (by (with_reducible repeat (first | refine blk_drewN ?_ _ | refine blk_drew ?_ | refine blk_alloc ?_ _)); exact BK143.out) hb); have n1_ := Aside0.mk (below_step (by repeat (first | (with_reducible first | exact HB.out | apply below_alloc | apply pw_below_drewN | apply below_drew1 | refine below_set ?_ GE143.out) | exact HB.out)) hb); clear BK143; clear HB; have BK143 := n0_; have HB := n1_; clear n0_ n1_; (try clear hb); (try clear hb2); (try clear hk); (try clear hi)) | ((with_reducible refine gate_callee (f := 7) rfl ?_); refine goesL_ (some 8) rfl rfl Try.func7 (by kernel_rfl) rfl #[.string t144] rfl (by (try simp only [List.map_toArray, List.map_cons, List.map_nil]); first | done | rfl | (simp only [List.length_drop, List.length_take]; rfl)) ?_; (with_reducible refine (spec_RefParse.calls k t144 t145 t146 t147 t148 t149 _ A3.out).mono ?_); rintro e w16 ⟨rfl, hb⟩; refine ⟨_, rfl, ?_⟩; have n0_ := Aside0.mk (blk_below (g := gb143) (o := .cells #[.string a0_0, .string a0_1, .string a0_2, .string a0_3] 23 (0, 0)) (by (with_reducible repeat (first | refine blk_drewN ?_ _ | refine blk_drew ?_ | refine blk_alloc ?_ _)); exact BK143.out) hb); have n1_ := Aside0.mk (below_step (by repeat (first | (with_reducible first | exact HB.out | apply below_alloc | apply pw_below_drewN | apply below_drew1 | refine below_set ?_ GE143.out) | exact HB.out)) hb); clear BK143; clear HB; have BK143 := n0_; have HB := n1_; clear n0_ n1_; (try clear hb); (try clear hb2); (try clear hk); (try clear hi)) | ((with_reducible refine gate_dst (N := 3) rfl ?_); refine box_event ?hg (N := 3) ?hd (cs := #[.string (⟨#[]⟩ : ByteArray), .string (⟨#[]⟩ : ByteArray), .string (⟨#[]⟩ : ByteArray), .string (⟨#[]⟩ : ByteArray)]) (t := 23) ?hr ?_; (case hd => rfl); (case hg => rfl); (case hr => first | (go_simp; done) | (go_simp; rfl) | (go_simp; simp [u8w]; done)); intro gb150 hg w17 hbox hb; have n0_ := Aside0.mk (blk_below (g := gb143) (o := .cells #[.string a0_0, .string a0_1, .string a0_2, .string a0_3] 23 (0, 0)) (by (with_reducible repeat (first | refine blk_drewN ?_ _ | refine blk_drew ?_ | refine blk_alloc ?_ _)); exact BK143.out) hb); have n1_ := Aside0.mk (below_step (by repeat (first | (with_reducible first | exact HB.out | apply below_alloc | apply pw_below_drewN | apply below_drew1 | refine below_set ?_ GE143.out) | exact HB.out)) hb); have n2_ := Aside0.mk (hbox); have n3_ := Aside0.mk ((by rw [hg]; exact (below_size (by repeat (first | (with_reducible first | exact HB.out | apply below_alloc | apply pw_below_drewN | apply below_drew1 | refine below_set ?_ GE143.out) | exact HB.out))) : w.heap.size ≤ gb150)); have n4_ := Aside0.mk ((by rw [hg]; exact (below_size (by repeat (first | (with_reducible first | exact HB.out | apply below_alloc | apply pw_below_drewN | apply below_drew1 | refine below_set ?_ GE143.out) | exact HB.out))) : w.heap.size ≤ gb150)); have n5_ := Aside0.mk ((by rw [hg]; exact Nat.ne_of_lt (blk_lt (g := gb143) (o := .cells #[.string a0_0, .string a0_1, .string a0_2, .string a0_3] 23 (0, 0)) (by (with_reducible repeat (first | refine blk_drewN ?_ _ | refine blk_drew ?_ | refine blk_alloc ?_ _)); exact BK143.out)) : gb143 ≠ gb150)); have n6_ := Aside0.mk ((by rw [hg]; exact Nat.ne_of_gt (blk_lt (g := gb143) (o := .cells #[.string a0_0, .string a0_1, .string a0_2, .string a0_3] 23 (0, 0)) (by (with_reducible repeat (first | refine blk_drewN ?_ _ | refine blk_drew ?_ | refine blk_alloc ?_ _)); exact BK143.out)) : gb150 ≠ gb143)); clear BK143; clear HB; have BK143 := n0_; have HB := n1_; have BK150 := n2_; have GW150 := n3_; have GE150 := n4_; have NB143_150 := n5_; have NB150_143 := n6_; clear n0_ n1_ n2_ n3_ n4_ n5_ n6_; clear hb hbox hg; have hnb18 := NB150_143.out; have hnc18 := NB143_150.out; have hcz19_0 : w17.cell? ⟨gb150, 0, none⟩ = some (.string (⟨#[]⟩ : ByteArray)) := (blk_cell BK150.out 0).trans rfl; have hcz19_1 : w17.cell? ⟨gb150, 1, none⟩ = some (.string (⟨#[]⟩ : ByteArray)) := (blk_cell BK150.out 1).trans rfl; have hcz19_2 : w17.cell? ⟨gb150, 2, none⟩ = some (.string (⟨#[]⟩ : ByteArray)) := (blk_cell BK150.out 2).trans rfl; have hcz19_3 : w17.cell? ⟨gb150, 3, none⟩ = some (.string (⟨#[]⟩ : ByteArray)) := (blk_cell BK150.out 3).trans rfl; have hfz19_0 := blk_frozen BK150.out 0; have hfz19_1 := blk_frozen BK150.out 1; have hfz19_2 := blk_frozen BK150.out 2; have hfz19_3 := blk_frozen BK150.out 3))
  go_ret
  exact ⟨by first | rfl | (simp [errW_none, errW_some] <;> rfl) | (simp [*, errW_none, errW_some] <;> rfl) | (simp [bneNil]; done), by repeat (first | (with_reducible first | exact HB.out | apply below_alloc | apply pw_below_drewN | apply below_drew1 | refine below_set ?_ GE143.out | refine below_set ?_ GE150.out) | exact HB.out)⟩

end Go.Proofs.Ytmlcpnehihmhaaa.PX
