/- Contracts, made out of the kit's print of the program, widened by contracts of my own. -/
import Derived.Test.YtekmeoemnekmcaaDoorProg
import Derived.Below
import Derived.Deep.Draws
import Derived.Deep.AppendLies
import Derived.Maps.AppendAt
import Derived.OwnWalk
import Derived.Laws.BytesArg
import Derived.Laws.MakeOwn
import Derived.Laws.OwnMore
import Derived.Deep.OwnRows
import Derived.Tactics
import Derived.Lib.ConvBytes
import Derived.Laws.Slices
import Derived.WalkKit
import Derived.KernelRfl
import Derived.RowKit3
import Derived.Deep.LoopGhost
import Derived.Deep.QuietTactic
import Derived.BigQuiet
import Derived.WideLaws
import Derived.Deep.DeepCutAuto
import Derived.Deep.CutBlock
import Derived.Deep.RegionHeld3
import Derived.Laws.Rows
import Derived.Lib.AppendStr
import Derived.ArgAppend
import Derived.Laws.IdiomCopy
import Derived.OrdersHeld
import Derived.Laws.BitsLemmas
import Derived.RowKit
import Derived.Test.YtekmeoemnekmcaaDoorWWords
import Derived.Test.YtekmeoemnekmcaaDoorWLast
import Derived.Test.YtekmeoemnekmcaaDoorWTab
import Derived.Test.YtekmeoemnekmcaaDoorWFour
import Derived.Test.YtekmeoemnekmcaaDoorWQPut
import Derived.Test.YtekmeoemnekmcaaDoorWApart
import Derived.Test.YtekmeoemnekmcaaDoorWArr
import Derived.Test.YtekmeoemnekmcaaDoorWZeros
import Derived.Test.YtekmeoemnekmcaaDoorWFoot
import Derived.Test.YtekmeoemnekmcaaDoorWKept
import Derived.Test.YtekmeoemnekmcaaDoorWShare
import Derived.Test.YtekmeoemnekmcaaDoorWN
import Derived.Test.YtekmeoemnekmcaaDoorWFootNe
import Derived.Test.YtekmeoemnekmcaaDoorWAt
import Derived.Test.YtekmeoemnekmcaaDoorWEqStruct
import Derived.Test.YtekmeoemnekmcaaDoorWRepsOne
import Derived.Test.YtekmeoemnekmcaaDoorWInv
import Derived.Test.YtekmeoemnekmcaaDoorWInvWords
import Derived.Test.YtekmeoemnekmcaaDoorWGuard
import Derived.Test.YtekmeoemnekmcaaDoorWNEv
import Derived.Test.YtekmeoemnekmcaaDoorWMore
namespace Go.Proofs.YtekmeoemnekmcaaDoor.PX
open Go.RowKit Go.Proofs.YtekmeoemnekmcaaDoorW.PrintWords Go.Proofs.YtekmeoemnekmcaaDoorW.PrintLast Go.Proofs.YtekmeoemnekmcaaDoorW.PrintMore
attribute [local go_sem] max2_int min2_int max_two min_two max_three min_three max_four min_four   -- for this text's walks alone
set_option linter.unusedVariables false
set_option linter.unusedSimpArgs false



def errW : Option Int → Value
  | none => .nilIface
  | some c => .iface 0 (.int .i64 c)
theorem errW_none : errW none = .nilIface := rfl
theorem errW_some (c : Int) : errW (some c) = .iface 0 (.int .i64 c) := rfl

theorem info9 : (Tryd.prog.info? 9).map (fun i => (i.zero, i.size, i.bytes)) = some (some (.string ⟨#[]⟩), 1, 16) := by kernel_rfl
theorem info28 : (Tryd.prog.info? 28).map (fun i => (i.zero, i.size, i.bytes)) = some (some (.agg #[(.int .u64 0), (.int .u64 0), (.int .u64 0), (.string ⟨#[]⟩), (.string ⟨#[]⟩)]), 5, 56) := by kernel_rfl
theorem bneNil (l : List UInt8) : (l != []) = !l.isEmpty := by cases l <;> rfl
theorem u8w (x : Int) : IntKind.u8.wrap x = x % 256 := by simp [IntKind.wrap, IntKind.bits, IntKind.signed]
theorem szL1 (a : UInt8) : (⟨#[a]⟩ : ByteArray).size = 1 := rfl
theorem szL2 (a b : UInt8) : (⟨#[a, b]⟩ : ByteArray).size = 2 := rfl
theorem szL3 (a b c : UInt8) : (⟨#[a, b, c]⟩ : ByteArray).size = 3 := rfl
-- the values' own types
/-! #### struct type 28 -/
structure S28 where
  f0 : Int
  f1 : Int
  f2 : Int
  f3 : ByteArray
  f4 : ByteArray
def z28 : S28 := ⟨(0 : Int), (0 : Int), (0 : Int), (⟨#[]⟩ : ByteArray), (⟨#[]⟩ : ByteArray)⟩
def k28 : Kd S28 := Kd.iso (Kd.pair (Kd.int .u64) (Kd.pair (Kd.int .u64) (Kd.pair (Kd.int .u64) (Kd.pair Kd.string Kd.string)))) (fun x : S28 => (x.f0, x.f1, x.f2, x.f3, x.f4))
theorem k28_open {w : World} {x : S28} {cs : List Value} (h : k28.K w x cs) : cs = [.int .u64 x.f0, .int .u64 x.f1, .int .u64 x.f2, .string x.f3, .string x.f4] := by
  obtain ⟨_, _, rfl, rfl, ⟨_, _, rfl, rfl, ⟨_, _, rfl, rfl, ⟨_, _, rfl, rfl, rfl⟩⟩⟩⟩ := h
  exact rfl
theorem k28_openM {w : World} {base : Nat} {ok : Nat → Prop} {x : S28} {cs : List Value} (h : k28.M w base ok x cs) : cs = [.int .u64 x.f0, .int .u64 x.f1, .int .u64 x.f2, .string x.f3, .string x.f4] := by
  obtain ⟨_, _, rfl, rfl, ⟨_, _, rfl, rfl, ⟨_, _, rfl, rfl, ⟨_, _, rfl, rfl, rfl⟩⟩⟩⟩ := h
  exact rfl
theorem k28_mk (w : World) (x : S28)  : k28.K w x [.int .u64 x.f0, .int .u64 x.f1, .int .u64 x.f2, .string x.f3, .string x.f4] := ⟨[.int .u64 x.f0], [.int .u64 x.f1, .int .u64 x.f2, .string x.f3, .string x.f4], rfl, rfl, ⟨[.int .u64 x.f1], [.int .u64 x.f2, .string x.f3, .string x.f4], rfl, rfl, ⟨[.int .u64 x.f2], [.string x.f3, .string x.f4], rfl, rfl, ⟨[.string x.f3], [.string x.f4], rfl, rfl, rfl⟩⟩⟩⟩
theorem k28_mkM (w : World) (base : Nat) (ok : Nat → Prop) (x : S28)  : k28.M w base ok x [.int .u64 x.f0, .int .u64 x.f1, .int .u64 x.f2, .string x.f3, .string x.f4] := ⟨[.int .u64 x.f0], [.int .u64 x.f1, .int .u64 x.f2, .string x.f3, .string x.f4], rfl, rfl, ⟨[.int .u64 x.f1], [.int .u64 x.f2, .string x.f3, .string x.f4], rfl, rfl, ⟨[.int .u64 x.f2], [.string x.f3, .string x.f4], rfl, rfl, ⟨[.string x.f3], [.string x.f4], rfl, rfl, rfl⟩⟩⟩⟩
def rd_T28 (xs : List S28) (i : Int) : S28 := xs.getD i.toNat z28
theorem at_T28 {w : World} {A : Option Addr} {n : Nat} {xs : List S28} (h : Kd.C k28 w A n xs) (i : Int) (h0 : 0 ≤ i) (h1 : i < n) : ∃ ad , A = some ad ∧ w.cell? (ad.add (i.toNat * 5)) = some (.int .u64 (rd_T28 xs i).f0) ∧ w.cell? ⟨(ad.add (i.toNat * 5)).block, (ad.add (i.toNat * 5)).off + 1, none⟩ = some (.int .u64 (rd_T28 xs i).f1) ∧ w.cell? ⟨(ad.add (i.toNat * 5)).block, (ad.add (i.toNat * 5)).off + 2, none⟩ = some (.int .u64 (rd_T28 xs i).f2) ∧ w.cell? ⟨(ad.add (i.toNat * 5)).block, (ad.add (i.toNat * 5)).off + 3, none⟩ = some (.string (rd_T28 xs i).f3) ∧ w.cell? ⟨(ad.add (i.toNat * 5)).block, (ad.add (i.toNat * 5)).off + 4, none⟩ = some (.string (rd_T28 xs i).f4) := by
  obtain ⟨ad, c, e, _, hK, hc0⟩ := Kd.C_get h z28 i h0 h1
  have hc : ∀ j u, c[j]? = some u → w.cell? (ad.add (i.toNat * 5 + j)) = some u := hc0
  obtain rfl := k28_open hK
  exact ⟨ad, e, hc 0 _ rfl, by rw [← add_field _ _ 1 (by omega)]; exact hc 1 _ rfl, by rw [← add_field _ _ 2 (by omega)]; exact hc 2 _ rfl, by rw [← add_field _ _ 3 (by omega)]; exact hc 3 _ rfl, by rw [← add_field _ _ 4 (by omega)]; exact hc 4 _ rfl⟩

end Go.Proofs.YtekmeoemnekmcaaDoor.PX
