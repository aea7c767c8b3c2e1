/- What a row's list gives of unicode/utf8's two tables. -/
import Derived.Test.YtldcoaigecnpfaaDoorProg
import GoSem.PinnedTables
import Derived.Lib.LaidU8
import Derived.KernelRfl
namespace Go.Proofs.YtldcoaigecnpfaaDoor
open Go.Lib
theorem nFirst : Tryd.prog.globalNamed "unicode/utf8.first" = some 3 := by kernel_rfl
theorem nAcc : Tryd.prog.globalNamed "unicode/utf8.acceptRanges" = some 4 := by kernel_rfl
theorem yFirst : (Tryd.prog.globals[3]?).map (·.type) = some 124 := by kernel_rfl
theorem yAcc : (Tryd.prog.globals[4]?).map (·.type) = some 127 := by kernel_rfl
theorem cU8 : Tryd.prog.cellsOf 5 = 1 := by kernel_rfl
theorem cFirst : Tryd.prog.cellsOf 124 = 256 := by kernel_rfl
theorem cAcc : Tryd.prog.cellsOf 126 = 2 := by kernel_rfl
theorem tAcc : Tryd.prog.underlying 126 = some (TypeDesc.struct #[{ name := "lo", type := 5, offset := 0, embedded := false, tag := "", pkgPath := "unicode/utf8", byteOffset := 0 }, { name := "hi", type := 5, offset := 1, embedded := false, tag := "", pkgPath := "unicode/utf8", byteOffset := 1 }]) := by kernel_rfl
theorem first_is : Go.Pinned.utf8First = firstData := by kernel_rfl
theorem u8Tabs {w : World} (h3 : VarReads Tryd.prog w "unicode/utf8.first" Go.Pinned.utf8First) (h4 : VarReads Tryd.prog w "unicode/utf8.acceptRanges" acceptData) : Lib.Utf8Tabs 3 4 w := by
  rw [first_is] at h3
  refine ⟨fun c hc => ?_, fun i hi => ?_⟩
  · obtain ⟨g, t, cs, fuel, p, hg, hty, hvar, hd⟩ := h3
    obtain rfl := Option.some.inj (nFirst.symm.trans hg)
    obtain rfl := Option.some.inj (yFirst.symm.trans hty)
    have hcs := cells_of_tab Tryd.underlying124 Tryd.underlying5 cU8 cFirst hd
    have := World.var?_cell hg hvar c
    rw [this, ← Array.getElem?_toList, hcs]
    simp [firstTab, hc]
  · obtain ⟨g, t, cs, fuel, p, hg, hty, hvar, hd⟩ := h4
    obtain rfl := Option.some.inj (nAcc.symm.trans hg)
    obtain rfl := Option.some.inj (yAcc.symm.trans hty)
    obtain ⟨fuel', d, q, hdi, he⟩ := array_elem Tryd.underlying127 hd i hi
    simp only [List.getElem?_map, List.getElem?_range hi, Option.map_some, Option.some.injEq] at hdi
    subst hdi
    rw [cAcc] at he
    have hcs := ints_of_struct tAcc (fun j f hj => by
      match j, hj with
      | 0, hj => simp at hj; subst hj; exact ⟨Tryd.underlying5, rfl, cU8⟩
      | 1, hj => simp at hj; subst hj; exact ⟨Tryd.underlying5, rfl, cU8⟩
      | j + 2, hj => simp at hj) (by rw [cAcc]; rfl) he
    have e0 := congrArg (·[0]?) hcs
    have e1 := congrArg (·[1]?) hcs
    simp only [List.getElem?_take, List.getElem?_drop] at e0 e1
    constructor
    · rw [World.var?_cell hg hvar (2 * i), ← Array.getElem?_toList]
      simpa [Nat.mul_comm] using e0
    · rw [World.var?_cell hg hvar (2 * i + 1), ← Array.getElem?_toList]
      simpa [Nat.mul_comm] using e1
end Go.Proofs.YtldcoaigecnpfaaDoor
