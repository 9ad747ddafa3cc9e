/- The row and the tied card of FnMatchClasses, out of its printed walk and its plain law. For every input that the statement lets in. -/
import Derived.Test.YtmlcpnehihmhaaaDoorZCardMatchClasses7
import Derived.Scope
namespace Go.Proofs.YtmlcpnehihmhaaaDoor.Base
end Go.Proofs.YtmlcpnehihmhaaaDoor.Base
namespace Go.Proofs.YtmlcpnehihmhaaaDoor.Bt
end Go.Proofs.YtmlcpnehihmhaaaDoor.Bt
namespace Go.Proofs.YtmlcpnehihmhaaaDoor.L
end Go.Proofs.YtmlcpnehihmhaaaDoor.L
namespace Go.Proofs.YtmlcpnehihmhaaaDoor.Mt

open Go Go.RowKit Go.Lib Go.Proofs Go.Proofs.YtmlcpnehihmhaaaDoor Go.Proofs.YtmlcpnehihmhaaaDoor.Base Go.Proofs.YtmlcpnehihmhaaaDoor.L Go.Proofs.YtmlcpnehihmhaaaDoor.Bt

open Go.Proofs.YtmlcpnehihmhaaaDoorW.PrintWords Go.Proofs.YtmlcpnehihmhaaaDoorW.PrintLast Go.Proofs.YtmlcpnehihmhaaaDoorW.PrintMore

attribute [local go_sem] setCell_drewN alloc_drewN

set_option linter.unusedVariables false

/-- What may lie ahead of the scan of a class. -/
inductive Pos : List UInt8 → Prop
  | a (l : List Rg) : Pos (91 :: enc l)
  | b (l : List Rg) : Pos (enc l)
  | c (y : UInt8) (l : List Rg) : Pos (45 :: 92 :: y :: enc l)
  | d (y : UInt8) (l : List Rg) : Pos (92 :: y :: enc l)
  | e : Pos []

theorem enc_len (l : List Rg) : (enc l).length = 5 * l.length + 1 := by
  induction l with
  | nil => rfl
  | cons p r ih => obtain ⟨a, b⟩ := p; simp [enc, ih]; omega

theorem drop_head (c : ByteArray) (k : Nat) (h : UInt8) (t : List UInt8) (e : (bl c).drop k = h :: t) : ∃ p : k < c.size, (c[k].toNat : Int) = (h.toNat : Int) ∧ (bl c).drop (k + 1) = t ∧ c.size = k + 1 + t.length := by
  have hl := congrArg List.length e
  rw [List.length_drop, bl_len, List.length_cons] at hl
  have hk : k < c.size := by omega
  have hd := drop_bl c k hk
  rw [e] at hd
  injection hd with h1 h2
  exact ⟨hk, by rw [h1]; rfl, h2.symm, by omega⟩

set_option maxHeartbeats 8000000 in
set_option maxRecDepth 100000 in
theorem scanW (L : List Rg) (hln : L.length ≤ 1000) (c : ByteArray) (hc : bl c = 91 :: enc L) (w : World) :
    Calls Tryd.prog 16 #[.string c] w fun e w' => e = .returned (.tuple #[.bool false, .string c, .string ⟨#[]⟩]) ∧ w = w' := by
  have hh : Hd c 91 (enc L) := ⟨hc⟩
  have p1 := hh.pos
  have p2 : (c[0].toNat : Int) = 91 := by rw [hh.get]; rfl
  have p3 := hh.ne
  have p6 : decide (0 < c.size) = true := decide_eq_true p1
  have hz : c.size ≤ 10000 := by rw [← bl_len, hc, List.length_cons, enc_len]; omega
  have HS := Lib.hid (show Pos ((bl c).drop 0) by rw [List.drop_zero, hc]; exact Pos.a L)
  clear hh hc
  go_enter Tryd.func16, Tryd.ntmps16
  go_wp2_with fail
  refine wp_loop_rounds 2 ?_
  rw [rounds_succ]
  go_wp2_with fail
  clear p1 p2 p3 p6
  go_loop [2, 5, 6] (fun st v i => ∃ (k : Nat) (ir : Bool), st = .bool false ∧ i = .int .i64 (k : Int) ∧ v = .bool ir ∧ k ≤ c.size ∧ Hid (Pos ((bl c).drop k))) (fun _ _ i => c.size - (intOf i).toNat)
  case atStart => exact ⟨0, false, rfl, rfl, rfl, Nat.zero_le _, HS⟩
  case round =>
    obtain ⟨k, ir, rfl, rfl, rfl, hk, HP⟩ := hrel
    clear HS
    obtain ⟨t, ht⟩ : ∃ t, (bl c).drop k = t := ⟨_, rfl⟩
    have hP := HP.out
    rw [ht] at hP
    clear HP
    -- one step at a byte that is none of the escapes
    have step1 : ∀ (h : UInt8) (r : List UInt8), (bl c).drop k = h :: r → Pos r → k < c.size ∧ Hid (Pos ((bl c).drop (k + 1))) := fun h r e q => by
      obtain ⟨p, _, e2, _⟩ := drop_head c k h r e
      exact ⟨p, Lib.hid (by rw [e2]; exact q)⟩
    have step2 : ∀ (y : UInt8) (r : List UInt8), (bl c).drop k = 92 :: y :: r → Pos r → k + 1 < c.size ∧ Hid (Pos ((bl c).drop (k + 2))) := fun y r e q => by
      obtain ⟨p, _, e2, z⟩ := drop_head c k 92 _ e
      obtain ⟨p2, _, e3, _⟩ := drop_head c (k + 1) y r e2
      exact ⟨p2, Lib.hid (by rw [show k + 2 = k + 1 + 1 by omega, e3]; exact q)⟩
    have FIN : ∀ (y : UInt8) (r : List UInt8), t = 92 :: y :: r → Pos r → True := fun _ _ _ _ => trivial
    have key : (∃ (y : UInt8) (r : List UInt8), t = 92 :: y :: r ∧ Pos r) ∨ (∃ (h : UInt8) (r : List UInt8), t = h :: r ∧ Pos r ∧ (h = 91 ∨ h = 93 ∨ h = 45)) ∨ t = [] := by
      cases hP with
      | a l => exact .inr (.inl ⟨91, _, rfl, Pos.b l, .inl rfl⟩)
      | b l =>
        cases l with
        | nil => exact .inr (.inl ⟨93, [], rfl, Pos.e, .inr (.inl rfl)⟩)
        | cons p r => exact .inl ⟨p.1, _, rfl, Pos.c p.2 r⟩
      | c y l => exact .inr (.inl ⟨45, _, rfl, Pos.d y l, .inr (.inr rfl)⟩)
      | d y l => exact .inl ⟨y, _, rfl, Pos.b l⟩
      | e => exact .inr (.inr rfl)
    clear FIN hP
    rcases key with ⟨y, r, e, q⟩ | ⟨h, r, e, q, hq⟩ | e
    · rw [e] at ht
      obtain ⟨g1, g2⟩ := step2 y r ht q
      obtain ⟨hlt, hv, _, _⟩ := drop_head c k 92 _ ht
      have hv' : (c[k].toNat : Int) = 92 := hv
      have b0 : decide (k < c.size) = true := decide_eq_true hlt
      have b1 : decide ((k : Int) + 1 < (c.size : Int)) = true := decide_eq_true (by omega)
      have b2 : decide (k + 1 < c.size) = true := decide_eq_true g1
      clear step1 step2 ht hv q
      go_wp2
      go_round
      case rel => exact ⟨k + 2, _, rfl, by go_num, rfl, by omega, g2⟩
      case measure => simp [intOf]; omega
    · rw [e] at ht
      obtain ⟨g1, g2⟩ := step1 h r ht q
      obtain ⟨hlt, hv, _, _⟩ := drop_head c k h _ ht
      have b0 : decide (k < c.size) = true := decide_eq_true hlt
      clear step1 step2 ht q
      rcases hq with rfl | rfl | rfl
      · have hv' : (c[k].toNat : Int) = 91 := hv
        clear hv
        go_wp2
        go_round
        case rel => exact ⟨k + 1, _, rfl, by go_num, rfl, by omega, g2⟩
        case measure => simp [intOf]; omega
      · have hv' : (c[k].toNat : Int) = 93 := hv
        clear hv
        go_wp2
        go_round
        case rel => exact ⟨k + 1, _, rfl, by go_num, rfl, by omega, g2⟩
        case measure => simp [intOf]; omega
      · have hv' : (c[k].toNat : Int) = 45 := hv
        clear hv
        go_wp2
        go_round
        case rel => exact ⟨k + 1, _, rfl, by go_num, rfl, by omega, g2⟩
        case measure => simp [intOf]; omega
    · have hk2 : k = c.size := by
        have hl := congrArg List.length ht
        rw [List.length_drop, bl_len, e] at hl
        simp at hl; omega
      have b0 : decide (k < c.size) = false := decide_eq_false (by omega)
      clear step1 step2 ht
      go_wp2
      exact bodyPost_ret (v := .tuple #[.bool false, .string c, .string ⟨#[]⟩]) (by simp [results, Tryd.results16, go_sem]) rfl ⟨rfl, rfl⟩

theorem noGoto_ret {Q : Exit → Act → World → Prop} {a : Act} {w : World} (h : Q .ret a w) : Exit.noGoto Q .ret a w := h

/-- What a class says of a name that begins with x. -/
def mB (L : List Rg) (x : UInt8) (xs : List UInt8) : Bool := L.any (inR x) && decide (xs = [])

set_option maxHeartbeats 8000000 in
set_option maxRecDepth 100000 in
theorem matchW (L : List Rg) (x : UInt8) (xs : List UInt8) (hx : x.toNat < 128) (hL : L ≠ []) (hln : L.length ≤ 1000) (hA : ∀ p ∈ L, p.1.toNat < 128 ∧ p.2.toNat < 128) (c s : ByteArray) (hc : bl c = 91 :: enc L) (hs : bl s = x :: xs) (w : World) :
    Calls Tryd.prog 12 #[.string c, .string s] w fun e w' => e = .returned (.tuple #[.bool (mB L x xs), .nilIface]) ∧ w = w' := by
  obtain ⟨R, hR⟩ : ∃ R, mB L x xs = R := ⟨_, rfl⟩
  rw [hR]
  unfold mB at hR
  have hh : Hd c 91 (enc L) := ⟨hc⟩
  have p1 := hh.pos
  have p3 := hh.ne
  have p6 : decide (0 < c.size) = true := decide_eq_true p1
  have C := Lib.hid (fun W => scanW L hln c hc W)
  have D := Lib.hid (fun W => chunkW L x xs hx hL hln hA c s hc hs W)
  obtain ⟨t, ht⟩ : ∃ t, ofL xs = t := ⟨_, rfl⟩
  rw [ht] at D
  have hts : t.size = xs.length := by rw [← ht]; rfl
  clear hh hc hs hA hL hx
  cases hb : L.any (inR x) with
  | true =>
    rw [hb] at D hR
    have D1 := Lib.hid (show ∀ W : World, Calls Tryd.prog 18 #[.string c, .string s] W fun e w' => e = .returned (.tuple #[.string t, .bool true, .nilIface]) ∧ W = w' from D.out)
    clear D hb
    by_cases hx : xs = []
    · have H := Lib.hid (show R = true by rw [← hR, decide_eq_true hx]; rfl)
      have q1 : t = ByteArray.empty := by rw [← ht, hx]; rfl
      subst q1
      clear hR hx ht hts
      go_enter Tryd.func12, Tryd.ntmps12
      go_wp2_with fail
      refine wp_scope_straight ?_
      refine wp_seq (wp_label ?_)
      go_wp2_with fail
      refine wp_loop_rounds 3 ?_
      rw [rounds_succ]
      go_wp2_with (first
        | (go_at_call 16; (with_reducible refine (C.out _).mono ?_); rintro e w1 ⟨rfl, rfl⟩)
        | (go_at_call 18; (with_reducible refine (D1.out _).mono ?_); rintro e w1 ⟨rfl, rfl⟩))
      rw [rounds_succ]
      go_wp2_with fail
      refine noGoto_ret ?_
      go_ret2
      exact ⟨by rw [H.out]; rfl, rfl⟩
    · have H := Lib.hid (show R = false by rw [← hR, decide_eq_false hx]; rfl)
      have hpos : 0 < xs.length := List.length_pos_iff.2 hx
      have q1 : (t = ByteArray.empty) = False := eq_false (fun q => by rw [q] at hts; simp at hts; omega)
      have q2 : ((t.size : Int) == 0) = false := beq_eq_false_iff_ne.2 (by omega)
      clear hR hx ht hts hpos
      go_enter Tryd.func12, Tryd.ntmps12
      go_wp2_with fail
      refine wp_scope_straight ?_
      refine wp_seq (wp_label ?_)
      go_wp2_with fail
      refine wp_loop_rounds 3 ?_
      rw [rounds_succ]
      go_wp2_with (first
        | (go_at_call 16; (with_reducible refine (C.out _).mono ?_); rintro e w1 ⟨rfl, rfl⟩)
        | (go_at_call 18; (with_reducible refine (D1.out _).mono ?_); rintro e w1 ⟨rfl, rfl⟩))
      refine wp_loop_rounds 2 ?_
      rw [rounds_succ]
      go_wp2_with fail
      refine noGoto_ret ?_
      go_ret2
      exact ⟨by rw [H.out]; rfl, rfl⟩
  | false =>
    rw [hb] at D hR
    have H := Lib.hid (show R = false by rw [← hR]; rfl)
    have D1 := Lib.hid (show ∀ W : World, Calls Tryd.prog 18 #[.string c, .string s] W fun e w' => e = .returned (.tuple #[.string ⟨#[]⟩, .bool false, .nilIface]) ∧ W = w' from D.out)
    clear D hb hR ht hts
    go_enter Tryd.func12, Tryd.ntmps12
    go_wp2_with fail
    refine wp_scope_straight ?_
    refine wp_seq (wp_label ?_)
    go_wp2_with fail
    refine wp_loop_rounds 3 ?_
    rw [rounds_succ]
    go_wp2_with (first
      | (go_at_call 16; (with_reducible refine (C.out _).mono ?_); rintro e w1 ⟨rfl, rfl⟩)
      | (go_at_call 18; (with_reducible refine (D1.out _).mono ?_); rintro e w1 ⟨rfl, rfl⟩))
    refine wp_loop_rounds 2 ?_
    rw [rounds_succ]
    go_wp2_with fail
    refine noGoto_ret ?_
    go_ret2
    exact ⟨by rw [H.out]; rfl, rfl⟩

end Go.Proofs.YtmlcpnehihmhaaaDoor.Mt
