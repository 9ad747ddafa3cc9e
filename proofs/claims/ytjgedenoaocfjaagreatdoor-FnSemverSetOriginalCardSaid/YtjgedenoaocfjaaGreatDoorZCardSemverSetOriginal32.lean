/- The row and the tied card of FnSemverSetOriginal, out of its printed walk and its plain law. For every input that the statement lets in. -/
import Derived.Test.YtjgedenoaocfjaaGreatDoorZCardSemverSetOriginal30
import Derived.Test.YtjgedenoaocfjaaGreatDoorProg
import Derived.Lib.Hide
import Derived.LoopTactic
import Derived.Deep.Cut
import Derived.RegionTactic
import Derived.Laws.BitsAllLaws
namespace Go.Proofs.YtjgedenoaocfjaaGreatDoor.Base
end Go.Proofs.YtjgedenoaocfjaaGreatDoor.Base
namespace Go.Proofs.YtjgedenoaocfjaaGreatDoor.Rxw

open Go Go.RowKit Go.Lib Go.Proofs Go.Proofs.YtjgedenoaocfjaaGreatDoor.Base

theorem idx_wrap (k n pos : Nat) (h : k + pos = n) (hn : n < 4294967296) : IntKind.u64.wrap (wrap64 (wrap64 (k : Int) + (pos : Int))) = (n : Int) := by
  rw [IntKind.wrap_u64]
  unfold wrap64
  omega

theorem idx_quo (n q : Nat) (hq : n / 32 = q) (hn : n < 4294967296) : IntKind.u64.wrap ((n : Int) / 32) = (q : Int) := by
  rw [IntKind.wrap_u64]
  omega

theorem wrap64_nat (k : Nat) (h : k < 4294967297) : wrap64 (k : Int) = (k : Int) := by unfold wrap64; omega

theorem idx_all (pc fin pos n : Nat) (hpc : pc < 65536) (hfin : fin < 65536) (h : pc * (fin + 1) + pos = n) (hn : n < 4294967296) : IntKind.u64.wrap (wrap64 (wrap64 (wrap64 (pc : Int) * wrap64 ((fin : Int) + 1)) + (pos : Int))) = (n : Int) := by
  rw [wrap64_nat pc (by omega), show ((fin : Int) + 1) = ((fin + 1 : Nat) : Int) from rfl, wrap64_nat (fin + 1) (by omega), ← Int.natCast_mul]
  exact idx_wrap (pc * (fin + 1)) n pos h hn

theorem idx_and (n r : Nat) (hr : n % 32 = r) (hn : n < 4294967296) : bits BinOp.and IntKind.u64 (n : Int) 31 = (r : Int) := by
  have := u64_and_nat n 31 (Nat.lt_trans hn (by decide)) (by decide)
  rw [show ((31 : Nat) : Int) = 31 from rfl] at this
  rw [this, ← hr, Nat.and_two_pow_sub_one_eq_mod n 5]

theorem pow_lt (r m : Nat) (hr : r < 32) (hm : 2 ^ r = m) : m < 4294967296 := by
  rw [← hm]; exact Nat.pow_lt_pow_right (by decide) hr

theorem pow_u32 (r m : Nat) (hr : r < 32) (hm : 2 ^ r = m) : (2 : Int) ^ min r 32 % 4294967296 = (m : Int) := by
  have h := pow_lt r m hr hm
  have e : (2 : Int) ^ r = (m : Int) := by rw [← hm, Int.natCast_pow]; rfl
  rw [Nat.min_eq_left (by omega), e]
  omega

theorem bit_and (x m r y : Nat) (hx : x < 4294967296) (hr : r < 32) (hm : 2 ^ r = m) (hy : x &&& m = y) : bits BinOp.and IntKind.u32 (x : Int) (m : Int) = (y : Int) := by
  rw [u32_and_nat x m hx (pow_lt r m hr hm), hy]

theorem bit_or (x m r z : Nat) (hx : x < 4294967296) (hr : r < 32) (hm : 2 ^ r = m) (hz : x ||| m = z) : bits BinOp.or IntKind.u32 (x : Int) (m : Int) = (z : Int) := by
  rw [u32_or_nat x m hx (pow_lt r m hr hm), hz]

theorem bit_test (x m r y : Nat) (hm : 2 ^ r = m) (hy : x &&& m = y) : ((y : Int) != 0) = x.testBit r := by
  rw [← hy, ← hm, Bool.eq_iff_iff, bne_iff_ne]
  constructor
  · intro h
    cases e : x.testBit r with
    | true => rfl
    | false =>
      refine absurd ?_ h
      have : x &&& 2 ^ r = 0 := by
        apply Nat.eq_of_testBit_eq
        intro i
        rw [Nat.testBit_and, Nat.testBit_two_pow, Nat.zero_testBit]
        by_cases hi : r = i
        · rw [← hi, e]; rfl
        · simp [hi]
      rw [this]; rfl
  · intro h e
    have h2 : x &&& 2 ^ r = 0 := by omega
    have h3 := congrArg (fun k => k.testBit r) h2
    simp [Nat.testBit_and, Nat.testBit_two_pow, h] at h3

set_option maxHeartbeats 2000000 in
set_option maxRecDepth 100000 in
theorem visit (b V fin pc pos nv cv x n q r m y z : Nat) (v : Bool) (w : World)
    (hb0 : w.cell? ⟨b, 0, none⟩ = some (.int .i64 fin)) (hb4 : w.cell? ⟨b, 4, none⟩ = some (.slice (some ⟨V, 0, none⟩) nv cv))
    (hpc : pc < 65536) (hfin : fin < 65536) (hn : pc * (fin + 1) + pos = n) (hN : n < 4294967296) (hq : n / 32 = q) (hr : n % 32 = r) (hnv : q < nv)
    (hm : 2 ^ r = m) (hy : x &&& m = y) (hz : x ||| m = z) (ht : x.testBit r = v)
    (hv : w.cell? ⟨V, q, none⟩ = some (.int .u32 x)) (hx : x < 4294967296) (hf : w.frozen? ⟨V, q, none⟩ = false) :
    Calls Tryz.prog 119 #[.pointer (some ⟨b, 0, none⟩), .int .u32 pc, .int .i64 pos] w fun e w' =>
      e = .returned (.bool (!v)) ∧ w' = (if v = true then w else w.setCell ⟨V, q, none⟩ (.int .u32 z)) := by
  have hr32 : r < 32 := by omega
  have e1 := idx_all pc fin pos n hpc hfin hn hN
  have e2 := idx_quo n q hq hN
  have e5 := idx_and n r hr hN
  have e6 : (0 : Int) ≤ (r : Int) := Int.natCast_nonneg r
  have e7 := pow_u32 r m hr32 hm
  have e8 := bit_and x m r y hx hr32 hm hy
  have e9 := bit_or x m r z hx hr32 hm hz
  have e10 := (bit_test x m r y hm hy).trans ht
  have e3 : (q : Int) < (nv : Int) := Int.ofNat_lt.2 hnv
  have e4 : (0 : Int) ≤ (q : Int) := Int.natCast_nonneg q
  clear hn hq hnv hN hr hx hpc hfin hr32 hm hy hz ht
  go_enter Tryz.func119, Tryz.ntmps119
  cases v
  · go_wp2_with fail
    go_ret
    exact ⟨rfl, rfl⟩
  · go_wp2_with fail
    go_ret
    exact ⟨rfl, rfl⟩

end Go.Proofs.YtjgedenoaocfjaaGreatDoor.Rxw
