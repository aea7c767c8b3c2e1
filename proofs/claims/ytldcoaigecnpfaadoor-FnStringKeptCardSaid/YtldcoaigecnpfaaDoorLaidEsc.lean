/- What a row's list gives of the table of ASCII characters that are escaped. -/
import Derived.Test.YtldcoaigecnpfaaDoorProg
import Derived.Lib.LaidU8
import Derived.KernelRfl
namespace Go.Proofs.YtldcoaigecnpfaaDoor
open Go.Lib
/-- 1: escaped. -/
def escT (c : Nat) : Nat := if c < 32 ∨ c = 34 ∨ c = 38 ∨ c = 60 ∨ c = 62 ∨ c = 92 then 1 else 0
def escTab : List Int := (List.range 128).map fun c => (escT c : Int)
theorem nEsc : Tryd.prog.globalNamed "loop.example/pub-g01450/pub/jsontext_internal_jsonwire.escapeASCII" = some 0 := by kernel_rfl
theorem yEsc : (Tryd.prog.globals[0]?).map (·.type) = some 70 := by kernel_rfl
theorem cEsc : Tryd.prog.cellsOf 70 = 128 := by kernel_rfl
theorem cEscU8 : Tryd.prog.cellsOf 5 = 1 := by kernel_rfl
/-- The table, in memory. -/
def EscAt (w : World) : Prop := ∀ c, c < 128 → w.cell? ⟨0, c, none⟩ = some (.int .u8 (escT c))
theorem escAt {w : World} (h : VarReads Tryd.prog w "loop.example/pub-g01450/pub/jsontext_internal_jsonwire.escapeASCII" (tabData .u8 escTab)) : EscAt w := fun c hc => by
  obtain ⟨g, t, cs, fuel, p, hg, hty, hvar, hd⟩ := h
  obtain rfl := Option.some.inj (nEsc.symm.trans hg)
  obtain rfl := Option.some.inj (yEsc.symm.trans hty)
  have hcs := cells_of_tab Tryd.underlying70 Tryd.underlying5 cEscU8 cEsc hd
  have := World.var?_cell hg hvar c
  rw [this, ← Array.getElem?_toList, hcs]
  simp [escTab, hc]
end Go.Proofs.YtldcoaigecnpfaaDoor
