/- What a row's list gives of unicode/utf8's two tables. What a row's list gives of the error that tells of bytes that are no UTF-8. What a row's list gives of the error that tells of an early end. Options as an argument, opened: fifteen cells. -/
import Derived.Test.YtldcoaigecnpfaaDoorGOptFlags
import Derived.Test.YtldcoaigecnpfaaDoorProg
import GoSem.PinnedTables
import Derived.Lib.LaidU8
import Derived.KernelRfl
import Derived.Stop.LaidErr
import Derived.Lib.SmallJoins
namespace Go.Proofs.YtldcoaigecnpfaaDoor
open Go.Lib
theorem nFirst : Tryd.prog.globalNamed "unicode/utf8.first" = some 3 := by kernel_rfl
theorem nAcc : Tryd.prog.globalNamed "unicode/utf8.acceptRanges" = some 4 := by kernel_rfl
theorem yFirst : (Tryd.prog.globals[3]?).map (·.type) = some 124 := by kernel_rfl
theorem yAcc : (Tryd.prog.globals[4]?).map (·.type) = some 127 := by kernel_rfl
theorem cU8 : Tryd.prog.cellsOf 5 = 1 := by kernel_rfl
theorem cFirst : Tryd.prog.cellsOf 124 = 256 := by kernel_rfl
theorem cAcc : Tryd.prog.cellsOf 126 = 2 := by kernel_rfl
theorem tAcc : Tryd.prog.underlying 126 = some (TypeDesc.struct #[{ name := "lo", type := 5, offset := 0, embedded := false, tag := "", pkgPath := "unicode/utf8", byteOffset := 0 }, { name := "hi", type := 5, offset := 1, embedded := false, tag := "", pkgPath := "unicode/utf8", byteOffset := 1 }]) := by kernel_rfl
theorem first_is : Go.Pinned.utf8First = firstData := by kernel_rfl
theorem u8Tabs {w : World} (h3 : VarReads Tryd.prog w "unicode/utf8.first" Go.Pinned.utf8First) (h4 : VarReads Tryd.prog w "unicode/utf8.acceptRanges" acceptData) : Lib.Utf8Tabs 3 4 w := by
  rw [first_is] at h3
  refine ⟨fun c hc => ?_, fun i hi => ?_⟩
  · obtain ⟨g, t, cs, fuel, p, hg, hty, hvar, hd⟩ := h3
    obtain rfl := Option.some.inj (nFirst.symm.trans hg)
    obtain rfl := Option.some.inj (yFirst.symm.trans hty)
    have hcs := cells_of_tab Tryd.underlying124 Tryd.underlying5 cU8 cFirst hd
    have := World.var?_cell hg hvar c
    rw [this, ← Array.getElem?_toList, hcs]
    simp [firstTab, hc]
  · obtain ⟨g, t, cs, fuel, p, hg, hty, hvar, hd⟩ := h4
    obtain rfl := Option.some.inj (nAcc.symm.trans hg)
    obtain rfl := Option.some.inj (yAcc.symm.trans hty)
    obtain ⟨fuel', d, q, hdi, he⟩ := array_elem Tryd.underlying127 hd i hi
    simp only [List.getElem?_map, List.getElem?_range hi, Option.map_some, Option.some.injEq] at hdi
    subst hdi
    rw [cAcc] at he
    have hcs := ints_of_struct tAcc (fun j f hj => by
      match j, hj with
      | 0, hj => simp at hj; subst hj; exact ⟨Tryd.underlying5, rfl, cU8⟩
      | 1, hj => simp at hj; subst hj; exact ⟨Tryd.underlying5, rfl, cU8⟩
      | j + 2, hj => simp at hj) (by rw [cAcc]; rfl) he
    have e0 := congrArg (·[0]?) hcs
    have e1 := congrArg (·[1]?) hcs
    simp only [List.getElem?_take, List.getElem?_drop] at e0 e1
    constructor
    · rw [World.var?_cell hg hvar (2 * i), ← Array.getElem?_toList]
      simpa [Nat.mul_comm] using e0
    · rw [World.var?_cell hg hvar (2 * i + 1), ← Array.getElem?_toList]
      simpa [Nat.mul_comm] using e1
end Go.Proofs.YtldcoaigecnpfaaDoor
namespace Go.Proofs.YtldcoaigecnpfaaDoor
open Go.ChangeShapes Go.RowKit
theorem nInv : Tryd.prog.globalNamed "loop.example/pub-g01450/pub/jsontext_internal_jsonwire.ErrInvalidUTF8" = some 1 := by kernel_rfl
theorem yInv : (Tryd.prog.globals[1]?).map (·.type) = some 50 := by kernel_rfl
theorem starErr : "*" ++ "errors.errorString" = "*errors.errorString" := by decide
theorem rowErr (u : TypeId) (h : Tryd.prog.typeName? 3 u = some "*errors.errorString") : u = 137 :=
  typeName_ptr_named (nm := "errors.errorString") (by rw [starErr]; kernel_rfl) (by kernel_rfl) (by decide) u (by rw [starErr]; exact h)
theorem cErr : Tryd.prog.cellsOf 155 = 1 := by kernel_rfl
theorem cStr : Tryd.prog.cellsOf 9 = 1 := by kernel_rfl
theorem invAt {text : List UInt8} {r : List (String × DataW Unit)} {W : World} (h : laidMet Tryd.prog (("loop.example/pub-g01450/pub/jsontext_internal_jsonwire.ErrInvalidUTF8", .iface "*errors.errorString" (.ptr (.agg [.lit (.string text)]))) :: r) W) :
    ∃ E, W.cell? ⟨1, 0, none⟩ = some (.iface 137 (.pointer (some E))) := by
  obtain ⟨a, s, hv, _⟩ := laid_sentinel h nInv yInv Tryd.underlying50 rowErr Tryd.underlying137 Tryd.underlying155 rfl rfl Tryd.underlying9 cErr cStr
  exact ⟨a, World.var?_cell nInv hv 0⟩
end Go.Proofs.YtldcoaigecnpfaaDoor
namespace Go.Proofs.YtldcoaigecnpfaaDoor
open Go.ChangeShapes Go.RowKit
theorem nEof : Tryd.prog.globalNamed "io.ErrUnexpectedEOF" = some 2 := by kernel_rfl
theorem yEof : (Tryd.prog.globals[2]?).map (·.type) = some 50 := by kernel_rfl
theorem eofAt {text : List UInt8} {r : List (String × DataW Unit)} {W : World} (h : laidMet Tryd.prog (("io.ErrUnexpectedEOF", .iface "*errors.errorString" (.ptr (.agg [.lit (.string text)]))) :: r) W) :
    ∃ E, W.cell? ⟨2, 0, none⟩ = some (.iface 137 (.pointer (some E))) := by
  obtain ⟨a, s, hv, _⟩ := laid_sentinel h nEof yEof Tryd.underlying50 rowErr Tryd.underlying137 Tryd.underlying155 rfl rfl Tryd.underlying9 cErr cStr
  exact ⟨a, World.var?_cell nEof hv 0⟩
end Go.Proofs.YtldcoaigecnpfaaDoor
namespace Go.Proofs.YtldcoaigecnpfaaDoor
open Go.Joins Go.ChangeShapes Go.WideShapes Go.RowKit Go.Deep
theorem cellsI : Tryd.prog.cellsOf 2 = 1 := by kernel_rfl
theorem cellsB : Tryd.prog.cellsOf 4 = 1 := by kernel_rfl
theorem cellsT : Tryd.prog.cellsOf 9 = 1 := by kernel_rfl
theorem cellsO : Tryd.prog.cellsOf 35 = 15 := by kernel_rfl
set_option maxRecDepth 100000 in
theorem openOpts {H : Type} {enc : TypeId × Value → H} {W : World} {base : Nat} {sp : Nat → Bool} {v : Value} {d : DataW H} {p : List MemPlace} (hv : Value.okWide Tryd.prog W .any base 35 v) (h : DataW.Trod enc Tryd.prog W 0 sp true 35 v d p) :
    ∃ o : Opts, v = .agg o.cells := by
  obtain ⟨cs, rfl, hsz⟩ := okWide_struct Tryd.underlying35 hv
  obtain ⟨l⟩ := cs
  match l, hsz.trans cellsO with
  | [c0, c1, c2, c3, c4, c5, c6, c7, c8, c9, c10, c11, c12, c13, c14], _ =>
    obtain ⟨fuel, hf⟩ := h
    obtain ⟨xs, n, _, _, _, hlen, hg⟩ := DataW.trod_struct Tryd.underlying35 hf
    match xs, hlen with
    | [y0, y1, y2, y3, y4, y5, y6, y7, y8, y9, y10, y11, y12, y13, y14], _ =>
      have t0 : DataW.trod enc Tryd.prog W 0 sp true n 2 [c0] = some y0 := by simpa [Value.cells, cellsI] using hg 0 _ rfl
      obtain ⟨du, e0, _, _⟩ := DataW.trod_int Tryd.underlying2 t0
      have t1 : DataW.trod enc Tryd.prog W 0 sp true n 2 [c1] = some y1 := by simpa [Value.cells, cellsI] using hg 1 _ rfl
      obtain ⟨iv, e1, _, _⟩ := DataW.trod_int Tryd.underlying2 t1
      have t2 : DataW.trod enc Tryd.prog W 0 sp true n 2 [c2] = some y2 := by simpa [Value.cells, cellsI] using hg 2 _ rfl
      obtain ⟨fl, e2, _, _⟩ := DataW.trod_int Tryd.underlying2 t2
      have t3 : DataW.trod enc Tryd.prog W 0 sp true n 2 [c3] = some y3 := by simpa [Value.cells, cellsI] using hg 3 _ rfl
      obtain ⟨it, e3, _, _⟩ := DataW.trod_int Tryd.underlying2 t3
      have t4 : DataW.trod enc Tryd.prog W 0 sp true n 2 [c4] = some y4 := by simpa [Value.cells, cellsI] using hg 4 _ rfl
      obtain ⟨ht, e4, _, _⟩ := DataW.trod_int Tryd.underlying2 t4
      have t5 : DataW.trod enc Tryd.prog W 0 sp true n 2 [c5] = some y5 := by simpa [Value.cells, cellsI] using hg 5 _ rfl
      obtain ⟨js, e5, _, _⟩ := DataW.trod_int Tryd.underlying2 t5
      have t6 : DataW.trod enc Tryd.prog W 0 sp true n 2 [c6] = some y6 := by simpa [Value.cells, cellsI] using hg 6 _ rfl
      obtain ⟨mu, e6, _, _⟩ := DataW.trod_int Tryd.underlying2 t6
      have t7 : DataW.trod enc Tryd.prog W 0 sp true n 2 [c7] = some y7 := by simpa [Value.cells, cellsI] using hg 7 _ rfl
      obtain ⟨pr, e7, _, _⟩ := DataW.trod_int Tryd.underlying2 t7
      have t8 : DataW.trod enc Tryd.prog W 0 sp true n 2 [c8] = some y8 := by simpa [Value.cells, cellsI] using hg 8 _ rfl
      obtain ⟨re, e8, _, _⟩ := DataW.trod_int Tryd.underlying2 t8
      have t9 : DataW.trod enc Tryd.prog W 0 sp true n 2 [c9] = some y9 := by simpa [Value.cells, cellsI] using hg 9 _ rfl
      obtain ⟨co, e9, _, _⟩ := DataW.trod_int Tryd.underlying2 t9
      have t10 : DataW.trod enc Tryd.prog W 0 sp true n 2 [c10] = some y10 := by simpa [Value.cells, cellsI] using hg 10 _ rfl
      obtain ⟨cm, e10, _, _⟩ := DataW.trod_int Tryd.underlying2 t10
      have t11 : DataW.trod enc Tryd.prog W 0 sp true n 4 [c11] = some y11 := by simpa [Value.cells, cellsB] using hg 11 _ rfl
      obtain ⟨ib, e11, _⟩ := DataW.trod_bool Tryd.underlying4 t11
      have t12 : DataW.trod enc Tryd.prog W 0 sp true n 9 [c12] = some y12 := by simpa [Value.cells, cellsT] using hg 12 _ rfl
      obtain ⟨is, e12, _, _⟩ := DataW.trod_string Tryd.underlying9 t12
      have t13 : DataW.trod enc Tryd.prog W 0 sp true n 4 [c13] = some y13 := by simpa [Value.cells, cellsB] using hg 13 _ rfl
      obtain ⟨pb, e13, _⟩ := DataW.trod_bool Tryd.underlying4 t13
      have t14 : DataW.trod enc Tryd.prog W 0 sp true n 9 [c14] = some y14 := by simpa [Value.cells, cellsT] using hg 14 _ rfl
      obtain ⟨ps, e14, _, _⟩ := DataW.trod_string Tryd.underlying9 t14
      simp only [List.cons.injEq, and_true] at e0 e1 e2 e3 e4 e5 e6 e7 e8 e9 e10 e11 e12 e13 e14
      subst e0 e1 e2 e3 e4 e5 e6 e7 e8 e9 e10 e11 e12 e13 e14
      exact ⟨⟨du, iv, fl, it, ht, js, mu, pr, re, co, cm, ib, is, pb, ps⟩, rfl⟩
end Go.Proofs.YtldcoaigecnpfaaDoor
