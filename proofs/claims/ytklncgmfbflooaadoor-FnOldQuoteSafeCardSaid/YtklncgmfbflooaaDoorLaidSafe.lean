/- What a row's list gives of the old package's table of ASCII characters that stand as they are. -/
import Derived.Test.YtklncgmfbflooaaDoorProg
import Derived.Lib.LaidU8
import Derived.KernelRfl
namespace Go.Proofs.YtklncgmfbflooaaDoor
open Go.Lib
/-- Whether it stands as it is. -/
def safeT (c : Nat) : Bool := decide (32 ≤ c) && !(c == 34 || c == 38 || c == 60 || c == 62 || c == 92)
def safeData {H : Type} : DataW H := .agg ((List.range 128).map fun c => .lit (.bool (safeT c)))
theorem nSafe : Tryd.prog.globalNamed "loop.example/pub-g01450/pub/jsonscan.htmlSafeSet" = some 0 := by kernel_rfl
theorem ySafe : (Tryd.prog.globals[0]?).map (·.type) = some 108 := by kernel_rfl
theorem cBool : Tryd.prog.cellsOf 4 = 1 := by kernel_rfl
/-- The table, in memory. -/
def SafeAt (w : World) : Prop := ∀ c, c < 128 → w.cell? ⟨0, c, none⟩ = some (.bool (safeT c))
theorem safeAt {w : World} (h : VarReads Tryd.prog w "loop.example/pub-g01450/pub/jsonscan.htmlSafeSet" safeData) : SafeAt w := fun c hc => by
  obtain ⟨g, t, cs, fuel, p, hg, hty, hvar, hd⟩ := h
  obtain rfl := Option.some.inj (nSafe.symm.trans hg)
  obtain rfl := Option.some.inj (ySafe.symm.trans hty)
  obtain ⟨fuel', d, q, hdi, he⟩ := array_elem Tryd.underlying108 hd c hc
  simp only [List.getElem?_map, List.getElem?_range hc, Option.map_some, Option.some.injEq] at hdi
  subst hdi
  rw [cBool, Nat.mul_one] at he
  obtain ⟨b, hb, hx⟩ := Go.DataW.trod_bool Tryd.underlying4 he
  injection hx with hx
  injection hx with hx
  injection hx with hx
  subst hx
  have := World.var?_cell hg hvar c
  rw [this, ← Array.getElem?_toList]
  have h0 := congrArg (·[0]?) hb
  simpa [List.getElem?_take, List.getElem?_drop] using h0
end Go.Proofs.YtklncgmfbflooaaDoor
