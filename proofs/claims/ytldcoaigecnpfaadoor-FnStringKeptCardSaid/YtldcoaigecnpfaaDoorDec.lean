/- unicode/utf8.DecodeRune, by the contract of the library's shelf, laid at this program. -/
import Derived.Test.YtldcoaigecnpfaaDoorProg
import Derived.Test.YtldcoaigecnpfaaDoorUtf
import Derived.Test.YtldcoaigecnpfaaDoorBytes
import Derived.Shelf.Spec.DecodeRune
import Derived.KernelRfl
namespace Go.Proofs.YtldcoaigecnpfaaDoor
open Go.RowKit
def renDec : Go.Shelf.Ren := ⟨fun | 32 => 37 | 49 => 61 | n => n, fun | 30 => 23 | 21 => 21 | 3 => 3 | 0 => 0 | 5 => 5 | 4 => 4 | 33 => 71 | 66 => 124 | 25 => 69 | 69 => 127 | 68 => 126 | n => n, fun | 2 => 3 | 3 => 4 | n => n⟩
theorem laysDec : Go.Proofs.Lays7.n32 Tryd.prog renDec :=
  { mixed := by kernel_rfl,
    f32 := Tryd.func37.trans (congrArg some (by kernel_rfl)),
    f49 := Tryd.func61.trans (congrArg some (by kernel_rfl)),
    t0 := Tryd.underlying0,
    a0 := Tryd.isAgg0,
    z0 := Tryd.sizeOf0,
    v0 := Tryd.zeroValue0,
    i0 := by kernel_rfl,
    t3 := Tryd.underlying3,
    a3 := Tryd.isAgg3,
    z3 := Tryd.sizeOf3,
    v3 := Tryd.zeroValue3,
    i3 := by kernel_rfl,
    t4 := Tryd.underlying4,
    a4 := Tryd.isAgg4,
    z4 := Tryd.sizeOf4,
    v4 := Tryd.zeroValue4,
    i4 := by kernel_rfl,
    t5 := Tryd.underlying5,
    a5 := Tryd.isAgg5,
    z5 := Tryd.sizeOf5,
    v5 := Tryd.zeroValue5,
    i5 := by kernel_rfl,
    t21 := Tryd.underlying21,
    a21 := Tryd.isAgg21,
    z21 := Tryd.sizeOf21,
    v21 := Tryd.zeroValue21,
    i21 := by kernel_rfl,
    t25 := Tryd.underlying69,
    a25 := Tryd.isAgg69,
    z25 := Tryd.sizeOf69,
    v25 := Tryd.zeroValue69,
    i25 := by kernel_rfl,
    t30 := Tryd.underlying23,
    a30 := Tryd.isAgg23,
    z30 := Tryd.sizeOf23,
    v30 := Tryd.zeroValue23,
    i30 := by kernel_rfl,
    t33 := Tryd.underlying71,
    a33 := Tryd.isAgg71,
    z33 := Tryd.sizeOf71,
    v33 := Tryd.zeroValue71,
    i33 := by kernel_rfl,
    t66 := Tryd.underlying124,
    a66 := Tryd.isAgg124,
    z66 := Tryd.sizeOf124,
    t68 := Tryd.underlying126,
    a68 := Tryd.isAgg126,
    z68 := Tryd.sizeOf126,
    v68 := Tryd.zeroValue126,
    i68 := by kernel_rfl,
    t69 := Tryd.underlying127,
    a69 := Tryd.isAgg127,
    z69 := Tryd.sizeOf127,
    v69 := Tryd.zeroValue127,
    i69 := by kernel_rfl,
    g2 := by kernel_rfl,
    g3 := by kernel_rfl }
theorem list_get (l : List UInt8) (j : Nat) : ((⟨l.toArray⟩ : ByteArray).get! j).toNat = natL l j := by
  unfold natL
  show ((l.toArray)[j]!).toNat = _
  rw [List.getD_eq_getElem?_getD]
  by_cases h : j < l.length
  · simp [h]
  · have e1 : l[j]? = none := List.getElem?_eq_none (by omega)
    have e2 : l.toArray[j]! = default := by rw [Array.getElem!_eq_getD]; unfold Array.getD; rw [dif_neg (by simpa using h)]
    rw [e1, e2]; rfl
/-- The contract, over a list of bytes. -/
theorem decodeRune (l : List UInt8) (b off cap : Nat) (w : World) (hT : Lib.Utf8Tabs 3 4 w) (hp : BytesAt w b off l) (hl : 0 < l.length) :
    Calls Tryd.prog 37 #[.slice (some ⟨b, off, none⟩) l.length cap] w fun e w' => e = .returned (.tuple #[.int .i32 (decN l).1, .int .i64 (decN l).2]) ∧ Below w.heap.size w w' := by
  have h := Any7.utf8_DecodeRune laysDec ⟨l.toArray⟩ b off cap w hT (fun j hj => by
    have hj' : j < l.length := by simpa [ByteArray.size] using hj
    rw [list_get]; exact hp j hj')
  have hs : (⟨l.toArray⟩ : ByteArray).size = l.length := by simp [ByteArray.size]
  have hd : Lib.decodeGo ⟨l.toArray⟩ = decN l := by
    unfold Lib.decodeGo decN
    rw [hs, if_neg (by omega), Lib.decode_at, hs, list_get, list_get, list_get, list_get]
    rfl
  rw [hs, hd] at h
  exact h
end Go.Proofs.YtldcoaigecnpfaaDoor
