/- Setting flags and asking for flags: both laws, FnAskFlags and FnSetFlags, return true for every input, and leave all memory as it was. No condition. -/
import Derived.Test.YtbnnccadnnfomaaRows
import Derived.Test.YtbnnccadnnfomaaClose
import Derived.Test.YtbnnccadnnfomaaFlagsSet
namespace Go.Proofs.Ytbnnccadnnfomaa
open Go.ChangeShapes Go.WideShapes Go.ChangeAt Go.RowKit
namespace flags
theorem own : ownKnob Try.prog.godebug = none := by kernel_rfl
theorem laidOut : laidOutB Try.prog = true := by kernel_rfl
theorem cells24 : Try.prog.cellsOf 24 = 2 := by kernel_rfl

theorem ask (g t b : Int) (w : World) : Calls Try.prog 3 #[.agg #[.int .u64 g, .int .u64 t], .int .u64 b] w fun e w' => e = .returned (.bool true) ∧ Below w.heap.size w w' := by
  cases h : fok g t
  · exact ask_false g t b w h
  · exact ask_true g t b w h
theorem setLaw (g t b : Int) (w : World) : Calls Try.prog 7 #[.agg #[.int .u64 g, .int .u64 t], .int .u64 b] w fun e w' => e = .returned (.bool true) ∧ Below w.heap.size w w' := by
  cases h : fok g t
  · exact law_false g t b w h
  · rcases low b with hl | hl
    · exact law_no g t b w h hl
    · exact law_yes g t b w h hl

/-- A pair of u64 by value, and a u64, opened. -/
theorem opened {H : Type} {enc : TypeId × Value → H} {W : World} {base : Nat} {args : Array Value} {ds : List (DataW H)} {p : List MemPlace}
    (hval : ∀ (j : Nat) t v, (#[24, 22] : Array TypeId)[j]? = some t → args[j]? = some v → Value.okWide Try.prog W .any base t v)
    (hA : DataW.TrodAll enc Try.prog W 0 (fun _ => true) true [24, 22] args.toList ds p) :
    ∃ g t b : Int, args = #[.agg #[.int .u64 g, .int .u64 t], .int .u64 b] ∧ ∃ d0 d1, ds = [d0, d1] := by
  obtain ⟨v0, v1, d0, d1, p0, p1, rfl, rfl, rfl, h0, h1⟩ := trodAll_two hA
  obtain ⟨c0, c1, y0, y1, m, rfl, rfl, rfl, hy0, hy1⟩ := Joins.open_agg2 Try.underlying24 (by kernel_rfl) cells24 (hval 0 24 v0 rfl rfl) h0
  obtain ⟨g, e0, rfl, wg⟩ := DataW.trod_int Try.underlying22 hy0
  obtain ⟨t, e1, rfl, wt⟩ := DataW.trod_int Try.underlying22 hy1
  obtain ⟨b, rfl, rfl, rfl, wb⟩ := open_int Try.underlying22 (hval 1 22 v1 rfl rfl) h1
  simp at e0 e1
  subst e0; subst e1
  exact ⟨g, t, b, rfl, _, _, rfl⟩

set_option maxRecDepth 100000 in
theorem ask_lifted (os : Os) (started : os.Started) (H : Type) (enc : TypeId × Value → H) :
    ReturnsInHanded {} Try.checked os 3 .any (Rows.fnAskFlagsSpec.pre6 enc Try.prog Try.f3 Rows.fnAskFlagsRow.domain false) (Rows.fnAskFlagsSpec.post enc Try.prog Try.f3 false true false false) := by
  refine returnsInHanded_of_change (C := Try.checked) (s := Rows.fnAskFlagsSpec) own started (by kernel_rfl) Try.func3
    (ChangeSpec.witness6 (enc := enc) (C := Try.checked) false ⟨#[], #[.agg #[.int .u64 0, .int .u64 0], .int .u64 0], []⟩ 8 (by kernel_rfl) (by kernel_rfl) (by kernel_rfl) (by kernel_rfl)) ?_
  intro W base args ds gs before hval0 hW _ _
  have hval : ∀ (j : Nat) t v, Try.f3.params[j]? = some t → args[j]? = some v → Value.okWide Try.prog W .any base t v := hval0
  have hW' := hW
  obtain ⟨p, q, hA0, hV, _, _, _⟩ := hW
  have hA : DataW.TrodAll enc Try.prog W 0 (fun _ => true) true Try.f3.params.toList args.toList ds p := hA0
  rw [Try.params3] at hA hval
  obtain ⟨rfl, rfl⟩ := trodVars_none hV
  obtain ⟨g, t, b, rfl, d0, d1, rfl⟩ := opened hval hA
  refine (ask g t b W).mono fun e W' ⟨he, hb⟩ => ?_
  subst he
  exact ⟨_, rfl, law_post laidOut (by kernel_rfl) (by kernel_rfl) (by kernel_rfl) Try.underlying4 rfl hW' hb⟩
theorem ask_holds : Rows.FnAskFlagsSaid :=
  OpenClaim.holds_of_wide 3 Try.f3 rfl rfl rfl rfl rfl rfl rfl ⟨rfl, rfl, rfl, rfl, rfl⟩ rfl rfl rfl rfl rfl (by kernel_rfl) Try.func3 (by kernel_rfl)
    (of_decide_eq_true (by kernel_rfl)) (by unfold Func.isWrapper; first | (rw [if_pos (by decide +kernel)]; kernel_rfl) | (rw [if_neg (by decide +kernel)]; exact ⟨rfl, rfl⟩))
    (fun os started H enc _ => ask_lifted os started H enc)

set_option maxRecDepth 100000 in
theorem set_lifted (os : Os) (started : os.Started) (H : Type) (enc : TypeId × Value → H) :
    ReturnsInHanded {} Try.checked os 7 .any (Rows.fnSetFlagsSpec.pre6 enc Try.prog Try.f7 Rows.fnSetFlagsRow.domain false) (Rows.fnSetFlagsSpec.post enc Try.prog Try.f7 false true false false) := by
  refine returnsInHanded_of_change (C := Try.checked) (s := Rows.fnSetFlagsSpec) own started (by kernel_rfl) Try.func7
    (ChangeSpec.witness6 (enc := enc) (C := Try.checked) false ⟨#[], #[.agg #[.int .u64 0, .int .u64 0], .int .u64 0], []⟩ 8 (by kernel_rfl) (by kernel_rfl) (by kernel_rfl) (by kernel_rfl)) ?_
  intro W base args ds gs before hval0 hW _ _
  have hval : ∀ (j : Nat) t v, Try.f7.params[j]? = some t → args[j]? = some v → Value.okWide Try.prog W .any base t v := hval0
  have hW' := hW
  obtain ⟨p, q, hA0, hV, _, _, _⟩ := hW
  have hA : DataW.TrodAll enc Try.prog W 0 (fun _ => true) true Try.f7.params.toList args.toList ds p := hA0
  rw [Try.params7] at hA hval
  obtain ⟨rfl, rfl⟩ := trodVars_none hV
  obtain ⟨g, t, b, rfl, d0, d1, rfl⟩ := opened hval hA
  refine (setLaw g t b W).mono fun e W' ⟨he, hb⟩ => ?_
  subst he
  exact ⟨_, rfl, law_post laidOut (by kernel_rfl) (by kernel_rfl) (by kernel_rfl) Try.underlying4 rfl hW' hb⟩
theorem set_holds : Rows.FnSetFlagsSaid :=
  OpenClaim.holds_of_wide 7 Try.f7 rfl rfl rfl rfl rfl rfl rfl ⟨rfl, rfl, rfl, rfl, rfl⟩ rfl rfl rfl rfl rfl (by kernel_rfl) Try.func7 (by kernel_rfl)
    (of_decide_eq_true (by kernel_rfl)) (by unfold Func.isWrapper; first | (rw [if_pos (by decide +kernel)]; kernel_rfl) | (rw [if_neg (by decide +kernel)]; exact ⟨rfl, rfl⟩))
    (fun os started H enc _ => set_lifted os started H enc)
end flags
end Go.Proofs.Ytbnnccadnnfomaa
