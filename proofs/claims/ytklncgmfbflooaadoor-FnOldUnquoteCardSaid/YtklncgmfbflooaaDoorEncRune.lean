/- unicode/utf8.EncodeRune, by the contract of the library's shelf, laid at this program. -/
import Derived.Test.YtklncgmfbflooaaDoorBuf
import Derived.Shelf.Spec.EncodeRune
import Derived.KernelRfl
namespace Go.Proofs.YtklncgmfbflooaaDoor
open Go.RowKit
def renEnc : Go.Shelf.Ren := ⟨fun | 30 => 87 | 47 => 94 | n => n, fun | 0 => 0 | 3 => 3 | 4 => 4 | 5 => 5 | 21 => 21 | 25 => 90 | 27 => 143 | 30 => 56 | n => n, fun | n => n⟩
theorem laysEnc : Go.Proofs.Lays7.n30 Tryd.prog renEnc :=
  { mixed := by kernel_rfl,
    f30 := Tryd.func87.trans (congrArg some (by kernel_rfl)),
    f47 := Tryd.func94.trans (congrArg some (by kernel_rfl)),
    t0 := Tryd.underlying0,
    a0 := Tryd.isAgg0,
    z0 := Tryd.sizeOf0,
    v0 := Tryd.zeroValue0,
    i0 := by kernel_rfl,
    t3 := Tryd.underlying3,
    a3 := Tryd.isAgg3,
    z3 := Tryd.sizeOf3,
    v3 := Tryd.zeroValue3,
    i3 := by kernel_rfl,
    t4 := Tryd.underlying4,
    a4 := Tryd.isAgg4,
    z4 := Tryd.sizeOf4,
    v4 := Tryd.zeroValue4,
    i4 := by kernel_rfl,
    t5 := Tryd.underlying5,
    a5 := Tryd.isAgg5,
    z5 := Tryd.sizeOf5,
    v5 := Tryd.zeroValue5,
    i5 := by kernel_rfl,
    t21 := Tryd.underlying21,
    a21 := Tryd.isAgg21,
    z21 := Tryd.sizeOf21,
    v21 := Tryd.zeroValue21,
    i21 := by kernel_rfl,
    t25 := Tryd.underlying90,
    a25 := Tryd.isAgg90,
    z25 := Tryd.sizeOf90,
    v25 := Tryd.zeroValue90,
    i25 := by kernel_rfl,
    t27 := Tryd.underlying143,
    a27 := Tryd.isAgg143,
    z27 := Tryd.sizeOf143,
    v27 := Tryd.zeroValue143,
    i27 := by kernel_rfl,
    t30 := Tryd.underlying56,
    a30 := Tryd.isAgg56,
    z30 := Tryd.sizeOf56,
    v30 := Tryd.zeroValue56,
    i30 := by kernel_rfl }
end Go.Proofs.YtklncgmfbflooaaDoor
