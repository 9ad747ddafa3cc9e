/- The row and the tied card of FnSemverSetOriginal, out of its printed walk and its plain law. For every input that the statement lets in. -/
import Derived.Test.YtjgedenoaocfjaaGreatDoorZCardSemverSetOriginal35
import Derived.Laws.BitsAllLaws
namespace Go.Proofs.YtjgedenoaocfjaaGreatDoor.Base
end Go.Proofs.YtjgedenoaocfjaaGreatDoor.Base
namespace Go.Proofs.YtjgedenoaocfjaaGreatDoor.Bt
end Go.Proofs.YtjgedenoaocfjaaGreatDoor.Bt
namespace Go.Proofs.YtjgedenoaocfjaaGreatDoor.L
end Go.Proofs.YtjgedenoaocfjaaGreatDoor.L
namespace Go.Proofs.YtjgedenoaocfjaaGreatDoor.Rxw

open Go Go.RowKit Go.Lib Go.Proofs Go.Proofs.YtjgedenoaocfjaaGreatDoor.Base Go.Proofs.YtjgedenoaocfjaaGreatDoor.L Go.Proofs.YtjgedenoaocfjaaGreatDoor.Bt

/-- The flag of two letters. -/
def lz (r1 r2 : Int) : Int := bits BinOp.or IntKind.u64 (IntKind.u64.wrap (IntKind.u64.wrap r1 * 4294967296)) (r2 % 4294967296)

theorem or_add (a y : Nat) (ha : a < 4294967296) (hy : y < 4294967296) : bits BinOp.or IntKind.u64 ((a * 4294967296 : Nat) : Int) (y : Int) = ((a * 4294967296 + y : Nat) : Int) := by
  rw [u64_or_nat (a * 4294967296) y (by omega) (by omega)]
  have h1 : y < 2 ^ 32 := hy
  have h2 := Nat.shiftLeft_add_eq_or_of_lt h1 a
  rw [Nat.shiftLeft_eq] at h2
  exact congrArg Int.ofNat h2.symm

theorem hi_of (r1 : Int) : IntKind.u64.wrap (IntKind.u64.wrap r1 * 4294967296) = (((r1 % 4294967296).toNat * 4294967296 : Nat) : Int) := by
  rw [IntKind.wrap_u64, IntKind.wrap_u64]
  omega

theorem lz_nat (r1 r2 : Int) : lz r1 r2 = (((r1 % 4294967296).toNat * 4294967296 + (r2 % 4294967296).toNat : Nat) : Int) := by
  unfold lz
  rw [hi_of r1, show r2 % 4294967296 = (((r2 % 4294967296).toNat : Nat) : Int) by omega]
  exact or_add _ _ (by omega) (by omega)

theorem lz_lo (r1 r2 : Int) (g : -1 ≤ r2) (g2 : r2 ≤ 127) : wrap32 (lz r1 r2) = r2 := by
  rw [lz_nat r1 r2]
  have ha : (r1 % 4294967296).toNat < 4294967296 := by omega
  have hb : (r2 % 4294967296) = ((r2 % 4294967296).toNat : Int) := by omega
  generalize (r1 % 4294967296).toNat = a at *
  unfold wrap32
  omega

theorem lz_hi (r1 r2 : Int) (h : -1 ≤ r1) (h2 : r1 ≤ 127) : wrap32 (lz r1 r2 / 4294967296) = r1 := by
  rw [lz_nat r1 r2]
  have hb : (r2 % 4294967296).toNat < 4294967296 := by omega
  generalize (r2 % 4294967296).toNat = b at *
  unfold wrap32
  omega

set_option maxHeartbeats 1000000 in
theorem lazyFlag (r1 r2 : Int) (w : World) :
    Calls Tryz.prog 154 #[.int .i32 r1, .int .i32 r2] w fun e w' => e = .returned (.int .u64 (lz r1 r2)) ∧ w = w' := by
  go_enter Tryz.func154, Tryz.ntmps154
  go_wp2_with fail
  go_ret
  exact ⟨rfl, rfl⟩

set_option maxHeartbeats 1000000 in
/-- At the end of a text. -/
theorem flag8 (F r2 : Int) (w : World) (h : wrap32 F = r2) :
    Calls Tryz.prog 121 #[.int .u64 F, .int .u8 8] w fun e w' => e = .returned (.bool (decide (r2 < 0))) ∧ w = w' := by
  have b1 : bits BinOp.and IntKind.u8 8 1 = 0 := by decide
  have b2 : bits BinOp.and IntKind.u8 8 4 = 0 := by decide
  have b3 : bits BinOp.and IntKind.u8 8 2 = 0 := by decide
  have b4 : bits BinOp.and IntKind.u8 8 8 = 8 := by decide
  have b5 : bits BinOp.andNot IntKind.u8 8 8 = 0 := by decide
  by_cases h0 : r2 < 0
  · have g1 : ¬ (0 ≤ r2) := by omega
    rw [decide_eq_true h0]
    go_enter Tryz.func121, Tryz.ntmps121
    go_wp2_with fail
    go_ret
    exact ⟨rfl, rfl⟩
  · have g1 : 0 ≤ r2 := by omega
    rw [decide_eq_false h0]
    go_enter Tryz.func121, Tryz.ntmps121
    go_wp2_with fail
    go_ret
    exact ⟨rfl, rfl⟩

set_option maxHeartbeats 1000000 in
/-- At the beginning of a text. -/
theorem flag4 (F r1 : Int) (w : World) (h : wrap32 (F / 4294967296) = r1) :
    Calls Tryz.prog 121 #[.int .u64 F, .int .u8 4] w fun e w' => e = .returned (.bool (decide (r1 < 0))) ∧ w = w' := by
  have b1 : bits BinOp.and IntKind.u8 4 1 = 0 := by decide
  have b2 : bits BinOp.and IntKind.u8 4 4 = 4 := by decide
  have b5 : bits BinOp.andNot IntKind.u8 4 4 = 0 := by decide
  by_cases h0 : r1 < 0
  · have g1 : ¬ (0 ≤ r1) := by omega
    rw [decide_eq_true h0]
    go_enter Tryz.func121, Tryz.ntmps121
    go_wp2_with fail
    go_ret
    exact ⟨rfl, rfl⟩
  · have g1 : 0 ≤ r1 := by omega
    rw [decide_eq_false h0]
    go_enter Tryz.func121, Tryz.ntmps121
    go_wp2_with fail
    go_ret
    exact ⟨rfl, rfl⟩

theorem last_of {s : ByteArray} {t : List UInt8} {x : UInt8} (h : bl s = t ++ [x]) : ∃ (_ : 0 < s.size) (hl : s.size - 1 < s.size), s[s.size - 1]'hl = x := by
  have hs : s.size = t.length + 1 := by rw [← bl_len, h]; simp
  refine ⟨by omega, by omega, ?_⟩
  have h2 : (bl s)[s.size - 1]'(by rw [bl_len]; omega) = s[s.size - 1]'(by omega) := get_bl s (s.size - 1) (by omega)
  rw [← h2]
  have h3 : (bl s)[s.size - 1]? = some x := by rw [h, hs, Nat.add_sub_cancel, List.getElem?_append_right (Nat.le_refl _)]; simp
  exact (List.getElem?_eq_some_iff.1 h3).2

set_option maxHeartbeats 1000000 in
theorem last_ascii (s : ByteArray) (x : UInt8) (t : List UInt8) (hs : bl s = t ++ [x]) (hx : x.toNat < 128) (hz2 : s.size ≤ 4294967296) (w : World) :
    Calls Tryz.prog 152 #[.string s] w fun e w' => e = .returned (.tuple #[.int .i32 x.toNat, .int .i64 1]) ∧ w = w' := by
  obtain ⟨hz, hl, hs0⟩ := last_of hs
  have hz0 : (0 : Int) < (s.size : Int) := by omega
  have hz1 : ((s.size : Int) == 0) = false := by rw [beq_eq_false_iff_ne]; omega
  have e1 : wrap64 ((s.size : Int) - 1) = ((s.size - 1 : Nat) : Int) := by unfold wrap64; omega
  have e2 : ((s.size - 1 : Nat) : Int) < (s.size : Int) := by omega
  have haz : (x.toNat : Int) < 128 := by omega
  clear hs hx hz hz2
  go_enter Tryz.func152, Tryz.ntmps152
  go_wp2_with fail
  go_ret2
  exact ⟨rfl, rfl⟩

/-- It returns some flag of the letters about a place. -/
def CtxR (n pos : Nat) (w : World) (e : Ending) (w' : World) : Prop := ∃ r1 r2 : Int, e = .returned (.int .u64 (lz r1 r2)) ∧ -1 ≤ r1 ∧ r1 ≤ 127 ∧ -1 ≤ r2 ∧ r2 ≤ 127 ∧ (r1 < 0 ↔ pos = 0) ∧ (r2 < 0 ↔ n ≤ pos) ∧ w = w'

set_option maxHeartbeats 1000000 in
theorem context (s : ByteArray) (b : Nat) (pos : Nat) (hA : ∀ x ∈ bl s, x.toNat < 128) (hp : pos ≤ s.size) (hz : s.size ≤ 65536) (w : World) (hb : w.cell? ⟨b, 5, none⟩ = some (.string s)) :
    Calls Tryz.prog 148 #[.pointer (some ⟨b, 5, none⟩), .int .i64 pos] w (CtxR s.size pos w) := by
  have hN1 : ∀ h : pos < s.size, ∃ x : UInt8, x.toNat < 128 ∧ ∀ W, Calls Tryz.prog 153 #[.string (s.extract pos s.size)] W fun e w' => e = .returned (.tuple #[.int .i32 x.toNat, .int .i64 1]) ∧ W = w' := by
    intro h
    have hd := drop_bl s pos h
    have hm : (bl s)[pos]'(by rw [bl_len]; exact h) ∈ bl s := List.getElem_mem _
    refine ⟨_, hA _ hm, fun W => decode_ascii (s.extract pos s.size) _ ((bl s).drop (pos + 1)) ?_ (hA _ hm) W⟩
    rw [bl_extract, hd, List.take_of_length_le]
    rw [← hd, List.length_drop, bl_len]
    exact Nat.le_refl _
  have hN2 : 0 < pos → ∃ x : UInt8, x.toNat < 128 ∧ ∀ W, Calls Tryz.prog 152 #[.string (s.extract 0 pos)] W fun e w' => e = .returned (.tuple #[.int .i32 x.toNat, .int .i64 1]) ∧ W = w' := by
    intro h
    have hl : pos - 1 < (bl s).length := by rw [bl_len]; omega
    have hm : (bl s)[pos - 1] ∈ bl s := List.getElem_mem _
    refine ⟨_, hA _ hm, fun W => last_ascii (s.extract 0 pos) _ ((bl s).take (pos - 1)) ?_ (hA _ hm) ?_ W⟩
    · rw [bl_extract, List.drop_zero, Nat.sub_zero, ← List.take_succ_eq_append_getElem hl, show pos - 1 + 1 = pos by omega]
    · rw [ByteArray.size_extract]; omega
  have hq : (pos : Int) ≤ (s.size : Int) := by omega
  have hzI : (s.size : Int) ≤ 65536 := by omega
  rcases Nat.eq_zero_or_pos pos with h0 | h0
  · have k1 : decide (IntKind.u64.wrap ((pos : Int) - 1) < (s.size : Int)) = false := by
      rw [decide_eq_false_iff_not, IntKind.wrap_u64]; omega
    rcases Nat.lt_or_ge pos s.size with h1 | h1
    · have k2 : decide ((pos : Int) < (s.size : Int)) = true := decide_eq_true (by omega)
      obtain ⟨x, hx, hc⟩ := hN1 h1
      have C := Lib.hid hc
      have H0 := Lib.hid h0; have H1 := Lib.hid h1
      clear hN1 hN2 hc h0 h1 hz hp hA
      go_enter Tryz.func148, Tryz.ntmps148
      go_wp2_with (first | (go_at_call 153; (with_reducible refine (C.out _).mono ?_); rintro e w' ⟨rfl, rfl⟩) | (go_at_call 154; (with_reducible refine (lazyFlag _ _ _).mono ?_); rintro e w' ⟨rfl, rfl⟩))
      go_ret
      exact ⟨-1, x.toNat, rfl, by omega, by omega, by omega, by omega, ⟨fun _ => H0.out, fun _ => by omega⟩, ⟨fun h => by omega, fun h => absurd H1.out (by omega)⟩, rfl⟩
    · have k2 : ¬ ((pos : Int) < (s.size : Int)) := by omega
      have H0 := Lib.hid h0; have H1 := Lib.hid h1
      clear hN1 hN2 h0 h1 hz hp hA
      go_enter Tryz.func148, Tryz.ntmps148
      go_wp2_with (first | (go_at_call 154; (with_reducible refine (lazyFlag _ _ _).mono ?_); rintro e w' ⟨rfl, rfl⟩))
      go_ret
      exact ⟨-1, -1, rfl, by omega, by omega, by omega, by omega, ⟨fun _ => H0.out, fun _ => by omega⟩, ⟨fun _ => H1.out, fun _ => by omega⟩, rfl⟩
  · have k1 : decide (IntKind.u64.wrap ((pos : Int) - 1) < (s.size : Int)) = true := by
      rw [decide_eq_true_iff, IntKind.wrap_u64]; omega
    obtain ⟨y, hy, hd⟩ := hN2 h0
    have D := Lib.hid hd
    rcases Nat.lt_or_ge pos s.size with h1 | h1
    · have k2 : decide ((pos : Int) < (s.size : Int)) = true := decide_eq_true (by omega)
      obtain ⟨x, hx, hc⟩ := hN1 h1
      have C := Lib.hid hc
      have H0 := Lib.hid h0; have H1 := Lib.hid h1
      clear hN1 hN2 hc hd h0 h1 hz hp hA
      go_enter Tryz.func148, Tryz.ntmps148
      go_wp2_with (first | (go_at_call 153; (with_reducible refine (C.out _).mono ?_); rintro e w' ⟨rfl, rfl⟩) | (go_at_call 152; (with_reducible refine (D.out _).mono ?_); rintro e w' ⟨rfl, rfl⟩) | (go_at_call 154; (with_reducible refine (lazyFlag _ _ _).mono ?_); rintro e w' ⟨rfl, rfl⟩))
      go_ret
      exact ⟨y.toNat, x.toNat, rfl, by omega, by omega, by omega, by omega, ⟨fun h => by omega, fun h => absurd H0.out (by omega)⟩, ⟨fun h => by omega, fun h => absurd H1.out (by omega)⟩, rfl⟩
    · have k2 : ¬ ((pos : Int) < (s.size : Int)) := by omega
      have H0 := Lib.hid h0; have H1 := Lib.hid h1
      clear hN1 hN2 hd h0 h1 hz hp hA
      go_enter Tryz.func148, Tryz.ntmps148
      go_wp2_with (first | (go_at_call 152; (with_reducible refine (D.out _).mono ?_); rintro e w' ⟨rfl, rfl⟩) | (go_at_call 154; (with_reducible refine (lazyFlag _ _ _).mono ?_); rintro e w' ⟨rfl, rfl⟩))
      go_ret
      exact ⟨y.toNat, -1, rfl, by omega, by omega, by omega, by omega, ⟨fun h => by omega, fun h => absurd H0.out (by omega)⟩, ⟨fun _ => H1.out, fun _ => by omega⟩, rfl⟩

end Go.Proofs.YtjgedenoaocfjaaGreatDoor.Rxw
