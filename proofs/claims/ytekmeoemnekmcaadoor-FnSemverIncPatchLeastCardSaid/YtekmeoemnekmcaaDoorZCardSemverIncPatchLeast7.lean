/- The row and the tied card of FnSemverIncPatchLeast, out of its printed walk and its plain law. For every input that the statement lets in. -/
import Derived.Shelf.Strconv.Itoa1
import Derived.Shelf.Strconv.Itoa2
import Derived.Ground.NamesProg
import Derived.Test.YtekmeoemnekmcaaDoorProg
namespace Go.Proofs

open Go.Shelf

def Tryd.lays283_ren : Go.Shelf.Ren := ⟨fun | 283 => 83 | n => n, fun | 3 => 3 | 9 => 9 | 4 => 4 | n => n, fun | n => n⟩

theorem Tryd.lays283 : Go.Proofs.Lays.n283 Tryd.prog Tryd.lays283_ren := {
  mixed := by kernel_rfl
  f283 := Tryd.func83.trans (congrArg some (by kernel_rfl))
  t3 := Tryd.underlying3
  a3 := Tryd.isAgg3
  z3 := Tryd.sizeOf3
  v3 := Tryd.zeroValue3
  t4 := Tryd.underlying4
  a4 := Tryd.isAgg4
  z4 := Tryd.sizeOf4
  v4 := Tryd.zeroValue4
  t9 := Tryd.underlying9
  a9 := Tryd.isAgg9
  z9 := Tryd.sizeOf9
  v9 := Tryd.zeroValue9 }

def Tryd.laysM284_ren : Go.Shelf.Ren := ⟨fun | 284 => 84 | 129 => 96 | 317 => 95 | 318 => 97 | n => n, fun | 53 => 26 | 3 => 3 | 212 => 111 | 0 => 0 | 4 => 4 | 46 => 94 | 5 => 5 | 9 => 9 | n => n, fun | 17 => 9 | n => n⟩

theorem Tryd.laysM284 : Go.Proofs.LaysM.n284 Tryd.prog Tryd.laysM284_ren := {
  mixed := by kernel_rfl
  f129 := Tryd.func96.trans (congrArg some (by kernel_rfl))
  f284 := Tryd.func84.trans (congrArg some (by kernel_rfl))
  f317 := Tryd.func95.trans (congrArg some (by kernel_rfl))
  f318 := Tryd.func97.trans (congrArg some (by kernel_rfl))
  t0 := Tryd.underlying0
  a0 := Tryd.isAgg0
  z0 := Tryd.sizeOf0
  v0 := Tryd.zeroValue0
  t3 := Tryd.underlying3
  a3 := Tryd.isAgg3
  z3 := Tryd.sizeOf3
  v3 := Tryd.zeroValue3
  t4 := Tryd.underlying4
  a4 := Tryd.isAgg4
  z4 := Tryd.sizeOf4
  v4 := Tryd.zeroValue4
  t5 := Tryd.underlying5
  a5 := Tryd.isAgg5
  z5 := Tryd.sizeOf5
  v5 := Tryd.zeroValue5
  t9 := Tryd.underlying9
  a9 := Tryd.isAgg9
  z9 := Tryd.sizeOf9
  v9 := Tryd.zeroValue9
  t46 := Tryd.underlying94
  a46 := Tryd.isAgg94
  z46 := Tryd.sizeOf94
  v46 := Tryd.zeroValue94
  t53 := Tryd.underlying26
  a53 := Tryd.isAgg26
  z53 := Tryd.sizeOf26
  v53 := Tryd.zeroValue26
  t212 := Tryd.underlying111
  a212 := Tryd.isAgg111
  z212 := Tryd.sizeOf111
  v212 := Tryd.zeroValue111
  g17 := by kernel_rfl
  i0 := by kernel_rfl
  i3 := by kernel_rfl
  i4 := by kernel_rfl
  i5 := by kernel_rfl
  i9 := by kernel_rfl
  i46 := by kernel_rfl
  i53 := by kernel_rfl
  i212 := by kernel_rfl
  m17 := by kernel_rfl }

def Tryd.lays285_ren : Go.Shelf.Ren := ⟨fun | 285 => 85 | n => n, fun | 37 => 49 | 53 => 26 | 3 => 3 | 4 => 4 | 51 => 112 | 9 => 9 | 5 => 5 | 0 => 0 | n => n, fun | n => n⟩

theorem Tryd.lays285 : Go.Proofs.Lays.n285 Tryd.prog Tryd.lays285_ren := {
  mixed := by kernel_rfl
  f285 := Tryd.func85.trans (congrArg some (by kernel_rfl))
  t0 := Tryd.underlying0
  a0 := Tryd.isAgg0
  z0 := Tryd.sizeOf0
  v0 := Tryd.zeroValue0
  t3 := Tryd.underlying3
  a3 := Tryd.isAgg3
  z3 := Tryd.sizeOf3
  v3 := Tryd.zeroValue3
  t4 := Tryd.underlying4
  a4 := Tryd.isAgg4
  z4 := Tryd.sizeOf4
  v4 := Tryd.zeroValue4
  t5 := Tryd.underlying5
  a5 := Tryd.isAgg5
  z5 := Tryd.sizeOf5
  v5 := Tryd.zeroValue5
  t9 := Tryd.underlying9
  a9 := Tryd.isAgg9
  z9 := Tryd.sizeOf9
  v9 := Tryd.zeroValue9
  t37 := Tryd.underlying49
  a37 := Tryd.isAgg49
  z37 := Tryd.sizeOf49
  v37 := Tryd.zeroValue49
  t51 := Tryd.underlying112
  a51 := Tryd.isAgg112
  z51 := Tryd.sizeOf112
  v51 := Tryd.zeroValue112
  t53 := Tryd.underlying26
  a53 := Tryd.isAgg26
  z53 := Tryd.sizeOf26
  v53 := Tryd.zeroValue26 }

end Go.Proofs
