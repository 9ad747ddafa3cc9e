/- The row and the tied card of FnSemverSetOriginal, out of its printed walk and its plain law. For every input that the statement lets in. -/
import Derived.Test.YtjgedenoaocfjaaGreatDoorZCardSemverSetOriginal22
import Derived.Test.YtjgedenoaocfjaaGreatDoorZCardSemverSetOriginal30
import Derived.Test.YtjgedenoaocfjaaGreatDoorProg
import Derived.Lib.Hide
import Derived.Deep.Cut
import Derived.RegionTactic
namespace Go.Proofs.YtjgedenoaocfjaaGreatDoor.Base
end Go.Proofs.YtjgedenoaocfjaaGreatDoor.Base
namespace Go.Proofs.YtjgedenoaocfjaaGreatDoor.Bt
end Go.Proofs.YtjgedenoaocfjaaGreatDoor.Bt
namespace Go.Proofs.YtjgedenoaocfjaaGreatDoor.L
end Go.Proofs.YtjgedenoaocfjaaGreatDoor.L
namespace Go.Proofs.YtjgedenoaocfjaaGreatDoor.Rxw

open Go Go.RowKit Go.Lib Go.Proofs Go.Proofs.YtjgedenoaocfjaaGreatDoor.Base Go.Proofs.YtjgedenoaocfjaaGreatDoor.L Go.Proofs.YtjgedenoaocfjaaGreatDoor.Bt

theorem bl_cons {s : ByteArray} {x : UInt8} {t : List UInt8} (h : bl s = x :: t) : ∃ hz : 0 < s.size, s[0]'hz = x ∧ s.toList.isEmpty = false ∧ s.toList ≠ [] := by
  have hz : 0 < s.size := by rw [← bl_len, h]; simp
  refine ⟨hz, ?_, ?_, ?_⟩
  · rw [← head_bl s hz, h]; rfl
  · rw [toList_bl, h]; rfl
  · rw [toList_bl, h]; simp

set_option maxHeartbeats 1000000 in
theorem decode_ascii (s : ByteArray) (x : UInt8) (t : List UInt8) (hs : bl s = x :: t) (hx : x.toNat < 128) (w : World) :
    Calls Tryz.prog 153 #[.string s] w fun e w' => e = .returned (.tuple #[.int .i32 x.toNat, .int .i64 1]) ∧ w = w' := by
  obtain ⟨hz, hs0, hne, hnn⟩ := bl_cons hs
  have hz0 : (0 : Int) < (s.size : Int) := by omega
  have haz : (x.toNat : Int) < 128 := by omega
  clear hs hx hnn
  go_enter Tryz.func153, Tryz.ntmps153
  go_wp2_with fail
  go_ret2
  exact ⟨rfl, rfl⟩

theorem step_off (s : ByteArray) (b : Nat) (pos : Nat) (h : s.size ≤ pos) (w : World) (hb : w.cell? ⟨b, 5, none⟩ = some (.string s)) :
    Calls Tryz.prog 151 #[.pointer (some ⟨b, 5, none⟩), .int .i64 pos] w fun e w' => e = .returned (.tuple #[.int .i32 (-1), .int .i64 0]) ∧ w = w' := by
  have h1 : ¬ ((pos : Int) < (s.size : Int)) := by omega
  clear h
  go_enter Tryz.func151, Tryz.ntmps151
  go_wp2_with fail
  go_ret2
  exact ⟨rfl, rfl⟩

theorem step_at (s : ByteArray) (b : Nat) (pos : Nat) (x : UInt8) (h : (bl s)[pos]? = some x) (hx : x.toNat < 128) (w : World) (hb : w.cell? ⟨b, 5, none⟩ = some (.string s)) :
    Calls Tryz.prog 151 #[.pointer (some ⟨b, 5, none⟩), .int .i64 pos] w fun e w' => e = .returned (.tuple #[.int .i32 x.toNat, .int .i64 1]) ∧ w = w' := by
  have hlt : pos < s.size := by rw [← bl_len]; exact (List.getElem?_eq_some_iff.1 h).1
  have hx2 : (bl s)[pos]'(by rw [bl_len]; exact hlt) = x := (List.getElem?_eq_some_iff.1 h).2
  have hd := drop_bl s pos hlt
  rw [hx2] at hd
  have he : bl (s.extract pos s.size) = x :: (bl s).drop (pos + 1) := by
    rw [bl_extract, hd, List.take_of_length_le]
    rw [← hd, List.length_drop, bl_len]
    exact Nat.le_refl _
  have h1 : (pos : Int) < (s.size : Int) := by omega
  have C := Lib.hid (fun W => decode_ascii (s.extract pos s.size) x _ he hx W)
  clear h hlt hx2 hd he hx
  go_enter Tryz.func151, Tryz.ntmps151
  go_wp2_with (go_at_call 153; (with_reducible refine (C.out _).mono ?_); rintro e w' ⟨rfl, rfl⟩)
  go_ret2
  exact ⟨rfl, rfl⟩

end Go.Proofs.YtjgedenoaocfjaaGreatDoor.Rxw
