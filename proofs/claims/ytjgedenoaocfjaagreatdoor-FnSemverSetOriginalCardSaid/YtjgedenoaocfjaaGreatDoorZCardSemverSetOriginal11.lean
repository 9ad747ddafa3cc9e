/- The row and the tied card of FnSemverSetOriginal, out of its printed walk and its plain law. For every input that the statement lets in. -/
import Derived.Test.YtjgedenoaocfjaaGreatDoorZCardSemverSetOriginal3
import Derived.Test.YtjgedenoaocfjaaGreatDoorZCardSemverSetOriginal10
import Derived.Shelf.Strconv.Itoa1
import Derived.Shelf.Strconv.Itoa2
import Derived.Lib.ItoaMem
import Derived.WalkKit
import Derived.Lib.AppendIntMem
namespace Go.Proofs.YtjgedenoaocfjaaGreatDoor.Fmt

open Go.RowKit Go.Sort Go.Lib Go.Proofs Go.Proofs.YtjgedenoaocfjaaGreatDoor

theorem small_in (u : Nat) (hu : u < 100) (w : World) :
    Calls Tryz.prog 83 #[.int .u64 (u : Int), .int .i64 10] w fun e w' => e = .returned (.string ⟨(Lib.decDigits u).toArray⟩) ∧ Below w.heap.size w w' := by
  go_enter Tryz.func83, Tryz.ntmps83
  go_wp2_with (go_at_call 95; refine (Any.internal_strconv_small Tryz.lays283 u hu _).mono ?_; rintro e w' ⟨rfl, rfl⟩)
  go_ret
  exact ⟨rfl, Below.refl _ _⟩

set_option maxHeartbeats 4000000 in
set_option maxRecDepth 100000 in
theorem big_in (u : Nat) (h1 : 100 ≤ u) (h64 : u < 18446744073709551616) (w : World) (hp : Pow w) :
    Calls Tryz.prog 83 #[.int .u64 (u : Int), .int .i64 10] w fun e w' => e = .returned (.string ⟨(Lib.decDigits u).toArray⟩) ∧ Below w.heap.size w w' := by
  have hnd : Lib.nDigits u ≤ 20 := by have := Lib.numDigits_eq u (by omega) h64; split at this <;> omega
  have hal : Tryz.prog.arrayLen 138 = 24 := by kernel_rfl
  have hel : Tryz.prog.elem 138 = 5 := by kernel_rfl
  have hun : Tryz.prog.underlying 138 = some (.array 24 5) := Tryz.underlying138
  have hsl : ∀ W, (Instr.sliceAt 138 (.pointer (some ⟨w.heap.size, 0, none⟩)) none (some (.int .i64 (Lib.nDigits u : Int))) none).run Tryz.prog W = .ok (.slice (some ⟨w.heap.size, 0, none⟩) (Lib.nDigits u) 24) W := fun W => by
    rw [run_sliceAt_array_h W 138 ⟨w.heap.size, 0, none⟩ (by rw [hal, hel]; exact hun) .i64 (Lib.nDigits u : Int) (by omega) (by rw [hal]; omega)]
    have hz := Tryz.sizeOf5
    rw [hel, hal]
    go_simp
  have hH0 : Holds (fun (b : UInt8) => Value.int .u8 (b.toNat : Int)) (w.alloc (.cells Lib.zeros24 138)) w.heap.size 0 (Array.replicate (Lib.nDigits u) (0 : UInt8)) := fun j hj => by
    have hj' : j < Lib.nDigits u := by simpa using hj
    refine ⟨?_, World.frozen?_alloc_new _ _ _ _⟩
    rw [World.cell?_alloc_new, Nat.zero_add, Lib.zeros24_at _ (by omega), getElem!_pos _ j hj]
    simp
  have hfmt := Any.internal_strconv_formatBase10 Tryz.lays285 w.heap.size 0 24 u (Array.replicate (Lib.nDigits u) 0) (w.alloc (.cells Lib.zeros24 138)) hH0 (by rw [Array.size_replicate]; exact Lib.lt_pow_nDigits u) h64 (by rw [Array.size_replicate]; omega)
  rw [Array.size_replicate] at hfmt
  have HH := Lib.hid hH0
  have HF := Lib.hid hfmt
  have HP := Lib.hid hp
  have hlt : ¬ u < 100 := by omega
  clear hp hnd hal hel hun hH0 hfmt
  go_enter Tryz.func83, Tryz.ntmps83
  go_wp2_with (go_at_call 96; refine (Any.internal_strconv_numDigits Tryz.laysM284 u (by omega) h64 _ (Lib.tabIs_alloc HP.out _)).mono ?_; rintro e w' ⟨rfl, rfl⟩)
  go_at_call 97
  refine HF.out.mono ?_
  rintro e w' ⟨rfl, k, v', dk, rfl, hF⟩
  have hcv : (convert 97 9 (.slice (some ⟨w.heap.size, 0, none⟩) (Lib.nDigits u) 24)).run Tryz.prog ((putRow (fun (b : UInt8) => Value.int .u8 (b.toNat : Int)) (w.alloc (.cells Lib.zeros24 138)) w.heap.size 0 dk).drewN k) = .ok (.string ⟨(Lib.decDigits u).toArray⟩) ((putRow (fun (b : UInt8) => Value.int .u8 (b.toNat : Int)) (w.alloc (.cells Lib.zeros24 138)) w.heap.size 0 dk).drewN k) := by
    have h := run_convert_bytes_back (P := Tryz.prog) ((putRow (fun (b : UInt8) => Value.int .u8 (b.toNat : Int)) (w.alloc (.cells Lib.zeros24 138)) w.heap.size 0 dk).drewN k) 97 9 5 ⟨w.heap.size, 0, none⟩ 24 (Lib.decDigits u) Tryz.underlying97 Tryz.underlying5 Tryz.underlying9 (fun j hj => by
      rw [Lib.row_is_numeral hF j hj, Lib.add_plain, World.cell?_drewN]
      exact cell?_putRow (fun (b : UInt8) => Value.int .u8 (b.toNat : Int)) _ w.heap.size 0 _ dk HH.out (by rw [hF.size, Array.size_replicate]) j (by rw [hF.size]; rw [Lib.decDigits_length] at hj; exact hj))
    rw [Lib.decDigits_length] at h
    exact h
  have hb : Below w.heap.size w ((putRow (fun (b : UInt8) => Value.int .u8 (b.toNat : Int)) (w.alloc (.cells Lib.zeros24 138)) w.heap.size 0 dk).drewN k) := by
    rw [alloc_eq_grow]
    obtain ⟨os', _, e⟩ := putRow_grow_new (fun (b : UInt8) => Value.int .u8 (b.toNat : Int)) w #[.cells Lib.zeros24 138] w.heap.size 0 dk (Nat.le_refl _)
    rw [e]
    exact Lib.below_grow w.heap.size w (Nat.le_refl _) k os'
  have HB := Lib.hid hb
  clear hb
  go_wp2
  go_ret
  exact ⟨rfl, HB.out⟩

/-- strconv.FormatUint(u, 10). -/
theorem fmtUint (u : Nat) (h64 : u < 18446744073709551616) (w : World) (hp : Pow w) :
    Calls Tryz.prog 63 #[.int .u64 (u : Int), .int .i64 10] w fun e w' => e = .returned (.string ⟨(Lib.decDigits u).toArray⟩) ∧ Below w.heap.size w w' := by
  have C : Hid (∀ W, Pow W → Calls Tryz.prog 83 #[.int .u64 (u : Int), .int .i64 10] W fun e w' => e = .returned (.string ⟨(Lib.decDigits u).toArray⟩) ∧ Below W.heap.size W w') := Lib.hid fun W hW => by
    by_cases h : u < 100
    · exact small_in u h W
    · exact big_in u (by omega) h64 W hW
  have HP := Lib.hid hp
  clear hp h64
  go_enter Tryz.func63, Tryz.ntmps63
  go_wp2_with (go_at_call 83; refine (C.out _ HP.out).mono ?_; rintro e w' ⟨rfl, hb⟩)
  go_ret
  exact ⟨rfl, hb⟩

end Go.Proofs.YtjgedenoaocfjaaGreatDoor.Fmt
