/- The row and the tied card of FnSemverSetOriginal, out of its printed walk and its plain law. For every input that the statement lets in. -/
import Derived.Shelf.Strconv.Itoa1
import Derived.Shelf.Strconv.Itoa2
import Derived.Ground.NamesProg
import Derived.Test.YtjgedenoaocfjaaGreatDoorProg
namespace Go.Proofs

open Go.Shelf

def Tryz.lays283_ren : Go.Shelf.Ren := ⟨fun | 283 => 95 | n => n, fun | 3 => 3 | 9 => 9 | 4 => 4 | n => n, fun | n => n⟩

theorem Tryz.lays283 : Go.Proofs.Lays.n283 Tryz.prog Tryz.lays283_ren := {
  mixed := by kernel_rfl
  f283 := Tryz.func95.trans (congrArg some (by kernel_rfl))
  t3 := Tryz.underlying3
  a3 := Tryz.isAgg3
  z3 := Tryz.sizeOf3
  v3 := Tryz.zeroValue3
  t4 := Tryz.underlying4
  a4 := Tryz.isAgg4
  z4 := Tryz.sizeOf4
  v4 := Tryz.zeroValue4
  t9 := Tryz.underlying9
  a9 := Tryz.isAgg9
  z9 := Tryz.sizeOf9
  v9 := Tryz.zeroValue9 }

def Tryz.laysM284_ren : Go.Shelf.Ren := ⟨fun | 284 => 96 | 129 => 105 | 317 => 104 | 318 => 106 | n => n, fun | 53 => 22 | 3 => 3 | 212 => 153 | 0 => 0 | 4 => 4 | 46 => 133 | 5 => 5 | 9 => 9 | n => n, fun | 17 => 9 | n => n⟩

theorem Tryz.laysM284 : Go.Proofs.LaysM.n284 Tryz.prog Tryz.laysM284_ren := {
  mixed := by kernel_rfl
  f129 := Tryz.func105.trans (congrArg some (by kernel_rfl))
  f284 := Tryz.func96.trans (congrArg some (by kernel_rfl))
  f317 := Tryz.func104.trans (congrArg some (by kernel_rfl))
  f318 := Tryz.func106.trans (congrArg some (by kernel_rfl))
  t0 := Tryz.underlying0
  a0 := Tryz.isAgg0
  z0 := Tryz.sizeOf0
  v0 := Tryz.zeroValue0
  t3 := Tryz.underlying3
  a3 := Tryz.isAgg3
  z3 := Tryz.sizeOf3
  v3 := Tryz.zeroValue3
  t4 := Tryz.underlying4
  a4 := Tryz.isAgg4
  z4 := Tryz.sizeOf4
  v4 := Tryz.zeroValue4
  t5 := Tryz.underlying5
  a5 := Tryz.isAgg5
  z5 := Tryz.sizeOf5
  v5 := Tryz.zeroValue5
  t9 := Tryz.underlying9
  a9 := Tryz.isAgg9
  z9 := Tryz.sizeOf9
  v9 := Tryz.zeroValue9
  t46 := Tryz.underlying133
  a46 := Tryz.isAgg133
  z46 := Tryz.sizeOf133
  v46 := Tryz.zeroValue133
  t53 := Tryz.underlying22
  a53 := Tryz.isAgg22
  z53 := Tryz.sizeOf22
  v53 := Tryz.zeroValue22
  t212 := Tryz.underlying153
  a212 := Tryz.isAgg153
  z212 := Tryz.sizeOf153
  v212 := Tryz.zeroValue153
  g17 := by kernel_rfl
  i0 := by kernel_rfl
  i3 := by kernel_rfl
  i4 := by kernel_rfl
  i5 := by kernel_rfl
  i9 := by kernel_rfl
  i46 := by kernel_rfl
  i53 := by kernel_rfl
  i212 := by kernel_rfl
  m17 := by kernel_rfl }

def Tryz.lays285_ren : Go.Shelf.Ren := ⟨fun | 285 => 97 | n => n, fun | 37 => 97 | 53 => 22 | 3 => 3 | 4 => 4 | 51 => 118 | 9 => 9 | 5 => 5 | 0 => 0 | n => n, fun | n => n⟩

theorem Tryz.lays285 : Go.Proofs.Lays.n285 Tryz.prog Tryz.lays285_ren := {
  mixed := by kernel_rfl
  f285 := Tryz.func97.trans (congrArg some (by kernel_rfl))
  t0 := Tryz.underlying0
  a0 := Tryz.isAgg0
  z0 := Tryz.sizeOf0
  v0 := Tryz.zeroValue0
  t3 := Tryz.underlying3
  a3 := Tryz.isAgg3
  z3 := Tryz.sizeOf3
  v3 := Tryz.zeroValue3
  t4 := Tryz.underlying4
  a4 := Tryz.isAgg4
  z4 := Tryz.sizeOf4
  v4 := Tryz.zeroValue4
  t5 := Tryz.underlying5
  a5 := Tryz.isAgg5
  z5 := Tryz.sizeOf5
  v5 := Tryz.zeroValue5
  t9 := Tryz.underlying9
  a9 := Tryz.isAgg9
  z9 := Tryz.sizeOf9
  v9 := Tryz.zeroValue9
  t37 := Tryz.underlying97
  a37 := Tryz.isAgg97
  z37 := Tryz.sizeOf97
  v37 := Tryz.zeroValue97
  t51 := Tryz.underlying118
  a51 := Tryz.isAgg118
  z51 := Tryz.sizeOf118
  v51 := Tryz.zeroValue118
  t53 := Tryz.underlying22
  a53 := Tryz.isAgg22
  z53 := Tryz.sizeOf22
  v53 := Tryz.zeroValue22 }

end Go.Proofs
