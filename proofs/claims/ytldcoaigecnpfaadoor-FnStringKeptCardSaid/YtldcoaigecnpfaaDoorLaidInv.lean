/- What a row's list gives of the error that tells of bytes that are no UTF-8. -/
import Derived.Test.YtldcoaigecnpfaaDoorProg
import Derived.Stop.LaidErr
import Derived.KernelRfl
namespace Go.Proofs.YtldcoaigecnpfaaDoor
open Go.ChangeShapes Go.RowKit
theorem nInv : Tryd.prog.globalNamed "loop.example/pub-g01450/pub/jsontext_internal_jsonwire.ErrInvalidUTF8" = some 1 := by kernel_rfl
theorem yInv : (Tryd.prog.globals[1]?).map (·.type) = some 50 := by kernel_rfl
theorem starErr : "*" ++ "errors.errorString" = "*errors.errorString" := by decide
theorem rowErr (u : TypeId) (h : Tryd.prog.typeName? 3 u = some "*errors.errorString") : u = 137 :=
  typeName_ptr_named (nm := "errors.errorString") (by rw [starErr]; kernel_rfl) (by kernel_rfl) (by decide) u (by rw [starErr]; exact h)
theorem cErr : Tryd.prog.cellsOf 155 = 1 := by kernel_rfl
theorem cStr : Tryd.prog.cellsOf 9 = 1 := by kernel_rfl
theorem invAt {text : List UInt8} {r : List (String × DataW Unit)} {W : World} (h : laidMet Tryd.prog (("loop.example/pub-g01450/pub/jsontext_internal_jsonwire.ErrInvalidUTF8", .iface "*errors.errorString" (.ptr (.agg [.lit (.string text)]))) :: r) W) :
    ∃ E, W.cell? ⟨1, 0, none⟩ = some (.iface 137 (.pointer (some E))) := by
  obtain ⟨a, s, hv, _⟩ := laid_sentinel h nInv yInv Tryd.underlying50 rowErr Tryd.underlying137 Tryd.underlying155 rfl rfl Tryd.underlying9 cErr cStr
  exact ⟨a, World.var?_cell nInv hv 0⟩
end Go.Proofs.YtldcoaigecnpfaaDoor
