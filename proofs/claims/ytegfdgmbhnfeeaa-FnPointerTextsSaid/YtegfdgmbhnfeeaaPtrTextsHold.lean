/- FnPointerTexts returns true for every input, and leaves all memory as it was. No condition. -/
import Derived.Test.YtegfdgmbhnfeeaaRows
import Derived.Test.YtegfdgmbhnfeeaaClose
import Derived.Test.YtegfdgmbhnfeeaaPtrTextsLaw
import Derived.SliceStrings
namespace Go.Proofs.Ytegfdgmbhnfeeaa
open Go.ChangeShapes Go.WideShapes Go.ChangeAt Go.RowKit
open Go.WideMaps Go.WideElems
open Go.ChangeShapes (open_strings)
namespace fnPointerTexts
theorem own : ownKnob Try.prog.godebug = none := by kernel_rfl
theorem laidOut : laidOutB Try.prog = true := by kernel_rfl
set_option maxRecDepth 100000 in
theorem lifted (os : Os) (started : os.Started) (H : Type) (enc : TypeId × Value → H) :
    ReturnsInHanded {} Try.checked os 7 .any (Rows.fnPointerTextsSpec.pre6 enc Try.prog Try.f7 Rows.fnPointerTextsRow.domain false) (Rows.fnPointerTextsSpec.post enc Try.prog Try.f7 false true false false) := by
  refine returnsInHanded_of_change (C := Try.checked) (s := Rows.fnPointerTextsSpec) own started (by kernel_rfl) Try.func7
    (ChangeSpec.witness6 (enc := enc) (C := Try.checked) false ⟨#[], #[.slice none 0 0], []⟩ 8 (by kernel_rfl) (by kernel_rfl) (by kernel_rfl) (by kernel_rfl)) ?_
  intro W base args ds gs before hval0 hW _ _
  have hval : ∀ (j : Nat) t v, Try.f7.params[j]? = some t → args[j]? = some v → Value.okWide Try.prog W .any base t v := hval0
  have hW' := hW
  obtain ⟨p, q, hA0, hV, _, _, _⟩ := hW
  have hA : DataW.TrodAll enc Try.prog W 0 (fun _ => true) true Try.f7.params.toList args.toList ds p := hA0
  rw [Try.params7] at hA hval
  obtain ⟨rfl, rfl⟩ := trodVars_none hV
  obtain ⟨v0, vs0, d0, ds0, p0, q0, hargs, rfl, rfl, h0, r0⟩ := trodAll_cons hA
  obtain ⟨rfl, rfl, rfl⟩ := trodAll_nil r0
  obtain rfl : args = #[v0] := by cases args; simp_all
  obtain ⟨a0, len, cap, rfl⟩ := okWide_slice Try.underlying30 (hval 0 30 v0 rfl rfl)
  obtain ⟨fuel, hf⟩ := h0
  suffices h : Calls Try.prog 7 #[.slice a0 len cap] W fun e w' => e = .returned (.bool true) ∧ Below W.heap.size W w' by
    refine h.mono fun e W' ⟨he, hb⟩ => ?_
    subst he
    exact ⟨_, rfl, law_post laidOut (by kernel_rfl) (by kernel_rfl) (by kernel_rfl) Try.underlying4 rfl hW' hb⟩
  rcases open_strings Try.underlying30 Try.underlying9 (by kernel_rfl) hf with ⟨hcs, hx⟩ | ⟨a, len', cap', ss, hcs, _, hl, hm, hz, hx, hcell, hsz⟩
  · simp [Value.cells] at hcs
    obtain ⟨rfl, rfl, rfl⟩ := hcs
    exact law_walk none 0 0 (fun _ => ByteArray.empty) W (by decide) (fun i hi => absurd hi (by omega)) (fun a h => by cases h) (fun _ => rfl)
  · simp [Value.cells] at hcs
    obtain ⟨rfl, rfl, rfl⟩ := hcs
    simp only [if_true] at hz
    refine law_walk (some a) len cap (fun i => ss.getD i ByteArray.empty) W (Nat.le_trans hl hm) (fun i hi => hsz _ ?_) (fun b hb i hi => ?_) (fun h => by cases h)
    · rw [List.getD_eq_getElem?_getD, List.getElem?_eq_getElem (show i < ss.length by omega)]
      exact List.getElem_mem _
    · cases hb
      exact hcell i (by omega)
theorem holds : Rows.FnPointerTextsSaid :=
  OpenClaim.holds_of_wide 7 Try.f7 rfl rfl rfl rfl rfl rfl rfl ⟨rfl, rfl, rfl, rfl, rfl⟩ rfl rfl rfl rfl rfl (by kernel_rfl) Try.func7 (by kernel_rfl)
    (of_decide_eq_true (by kernel_rfl)) (by unfold Func.isWrapper; first | (rw [if_pos (by decide +kernel)]; kernel_rfl) | (rw [if_neg (by decide +kernel)]; exact ⟨rfl, rfl⟩))
    (fun os started H enc _ => lifted os started H enc)
end fnPointerTexts
end Go.Proofs.Ytegfdgmbhnfeeaa
