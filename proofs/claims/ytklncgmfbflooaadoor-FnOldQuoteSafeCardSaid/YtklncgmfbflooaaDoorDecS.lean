/- unicode/utf8.DecodeRuneInString, by the contract of the library's shelf, laid at this program. -/
import Derived.Test.YtklncgmfbflooaaDoorProg
import Derived.Test.YtklncgmfbflooaaDoorUtf
import Derived.Shelf.Unicode.DecodeAny
import Derived.KernelRfl
namespace Go.Proofs.YtklncgmfbflooaaDoor
open Go.RowKit
def renDecS : Go.Shelf.Ren := ⟨fun | 197 => 67 | 260 => 82 | n => n, fun | 0 => 0 | 3 => 3 | 4 => 4 | 5 => 5 | 9 => 9 | 21 => 21 | 46 => 90 | 105 => 109 | 119 => 139 | 138 => 141 | 139 => 142 | n => n, fun | 3 => 3 | 4 => 4 | n => n⟩
theorem laysDecS : Go.Proofs.Lays.n197 Tryd.prog renDecS :=
  { mixed := by kernel_rfl,
    f197 := Tryd.func67.trans (congrArg some (by kernel_rfl)),
    f260 := Tryd.func82.trans (congrArg some (by kernel_rfl)),
    t0 := Tryd.underlying0,
    a0 := Tryd.isAgg0,
    z0 := Tryd.sizeOf0,
    v0 := Tryd.zeroValue0,
    t3 := Tryd.underlying3,
    a3 := Tryd.isAgg3,
    z3 := Tryd.sizeOf3,
    v3 := Tryd.zeroValue3,
    t4 := Tryd.underlying4,
    a4 := Tryd.isAgg4,
    z4 := Tryd.sizeOf4,
    v4 := Tryd.zeroValue4,
    t5 := Tryd.underlying5,
    a5 := Tryd.isAgg5,
    z5 := Tryd.sizeOf5,
    v5 := Tryd.zeroValue5,
    t9 := Tryd.underlying9,
    a9 := Tryd.isAgg9,
    z9 := Tryd.sizeOf9,
    v9 := Tryd.zeroValue9,
    t21 := Tryd.underlying21,
    a21 := Tryd.isAgg21,
    z21 := Tryd.sizeOf21,
    v21 := Tryd.zeroValue21,
    t46 := Tryd.underlying90,
    a46 := Tryd.isAgg90,
    z46 := Tryd.sizeOf90,
    v46 := Tryd.zeroValue90,
    t105 := Tryd.underlying109,
    a105 := Tryd.isAgg109,
    z105 := Tryd.sizeOf109,
    v105 := Tryd.zeroValue109,
    t119 := Tryd.underlying139,
    a119 := Tryd.isAgg139,
    z119 := Tryd.sizeOf139,
    t138 := Tryd.underlying141,
    a138 := Tryd.isAgg141,
    z138 := Tryd.sizeOf141,
    v138 := Tryd.zeroValue141,
    t139 := Tryd.underlying142,
    a139 := Tryd.isAgg142,
    z139 := Tryd.sizeOf142,
    v139 := Tryd.zeroValue142,
    g3 := by kernel_rfl,
    g4 := by kernel_rfl }
theorem str_get (s : ByteArray) (j : Nat) : (s.get! j).toNat = natL s.data.toList j := by
  unfold natL
  show ((s.data)[j]!).toNat = _
  rw [List.getD_eq_getElem?_getD, Array.getElem!_eq_getD, Array.getD_eq_getD_getElem?, Array.getElem?_toList]
  rfl
/-- The contract, over the bytes. -/
theorem decodeRuneS (s : ByteArray) (w : World) (hT : Lib.Utf8Tabs 3 4 w) (hl : 0 < s.size) :
    Calls Tryd.prog 67 #[.string s] w fun e w' => e = .returned (.tuple #[.int .i32 (decN s.data.toList).1, .int .i64 (decN s.data.toList).2]) ∧ Below w.heap.size w w' := by
  have h := Any.utf8_DecodeRuneInString laysDecS s w hT
  have hd : Lib.decodeGo s = decN s.data.toList := by
    unfold Lib.decodeGo decN
    rw [if_neg (by omega), Lib.decode_at, str_get, str_get, str_get, str_get, size_list]
    rfl
  rw [hd] at h
  exact h
end Go.Proofs.YtklncgmfbflooaaDoor
