/- What a row's list gives of the error that tells of an early end. -/
import Derived.Test.YtegfdgmbhnfeeaaDoorProg
import Derived.Stop.LaidErr
import Derived.KernelRfl
namespace Go.Proofs.YtegfdgmbhnfeeaaDoor
open Go.ChangeShapes Go.RowKit
theorem nEof : Tryd.prog.globalNamed "io.ErrUnexpectedEOF" = some 0 := by kernel_rfl
theorem yEof : (Tryd.prog.globals[0]?).map (·.type) = some 31 := by kernel_rfl
theorem starErr : "*" ++ "errors.errorString" = "*errors.errorString" := by decide
theorem rowErr (u : TypeId) (h : Tryd.prog.typeName? 3 u = some "*errors.errorString") : u = 73 :=
  typeName_ptr_named (nm := "errors.errorString") (by rw [starErr]; kernel_rfl) (by kernel_rfl) (by decide) u (by rw [starErr]; exact h)
theorem cErr : Tryd.prog.cellsOf 99 = 1 := by kernel_rfl
theorem cStr : Tryd.prog.cellsOf 9 = 1 := by kernel_rfl
theorem eofAt {text : List UInt8} {r : List (String × DataW Unit)} {W : World} (h : laidMet Tryd.prog (("io.ErrUnexpectedEOF", .iface "*errors.errorString" (.ptr (.agg [.lit (.string text)]))) :: r) W) :
    ∃ E, W.cell? ⟨0, 0, none⟩ = some (.iface 73 (.pointer (some E))) := by
  obtain ⟨a, s, hv, _⟩ := laid_sentinel h nEof yEof Tryd.underlying31 rowErr Tryd.underlying73 Tryd.underlying99 rfl rfl Tryd.underlying9 cErr cStr
  exact ⟨a, World.var?_cell nEof hv 0⟩
end Go.Proofs.YtegfdgmbhnfeeaaDoor
