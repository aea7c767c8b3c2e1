/- FnStringAgain returns true for every input, and leaves all memory as it was: the row, and its tied card. Condition: the listed package-level variables hold what their initialisers lay (tied by the card). -/
import Derived.Test.YtldcoaigecnpfaaDoorGClose
import Derived.Test.YtldcoaigecnpfaaDoorGStrPart
import Derived.Test.YtldcoaigecnpfaaDoorGLaidU8
import Derived.Test.YtldcoaigecnpfaaDoorGLaidEsc
import Derived.Test.YtldcoaigecnpfaaDoorCards
import Derived.Test.YtldcoaigecnpfaaDoorTie
import Derived.Lay
import Derived.LaidMore
import Derived.SevenTiedAt
import Derived.Stop.Joined
namespace Go.Proofs.YtldcoaigecnpfaaDoor
open Go.ChangeShapes Go.WideShapes Go.ChangeAt Go.RowKit
open Go.WideMaps Go.WideElems
open Go.ChangeMaps (open_string)
namespace fnStringAgain
theorem own : ownKnob Tryd.prog.godebug = none := by kernel_rfl
theorem laidOut : laidOutB Tryd.prog = true := by kernel_rfl
theorem trodVars_len {H : Type} {enc : TypeId × Value → H} {P : Program} {W : World} {sp : Nat → Bool} : ∀ (ns : List String) (ds : List (DataW H)) (ps : List MemPlace), DataW.TrodVars enc P W sp ns ds ps → ds.length = ns.length
  | [], _, _, h => by
    obtain ⟨rfl, rfl⟩ := trodVars_none h
    rfl
  | _ :: ns, ds, _, h => by
    match ds, h with
    | _ :: ds', h =>
      obtain ⟨_, _, _, _, _, _, _, _, _, _, hr, _⟩ := h
      rw [List.length_cons, List.length_cons, trodVars_len ns ds' _ hr]
set_option maxRecDepth 100000 in
theorem lifted (os : Os) (started : os.Started) (H : Type) (enc : TypeId × Value → H) :
    ReturnsInHanded {} Tryd.checked os 9 .any (fun w args => (Rows.fnStringAgainSpec.pre enc Tryd.prog Tryd.f9 Rows.fnStringAgainRow.domain false w args ∧ laidMetH Tryd.prog Rows.fnStringAgainRow.laid w) ∧ sizedMet enc Tryd.prog Tryd.f9 (OpenSpec.ofChange Rows.fnStringAgainSpec) false w args)
      (Rows.fnStringAgainSpec.post enc Tryd.prog Tryd.f9 false true false false) := by
  refine returnsInHanded_of_change_and (C := Tryd.checked) (X := fun w _ => laidMetH Tryd.prog Rows.fnStringAgainRow.laid w) (fun _ _ _ hh h => h.of_heap hh) own started (by kernel_rfl) Tryd.func9
    (ChangeSpec.witness_shaped (enc := enc) (C := Tryd.checked) (os := os) (X := fun w _ => laidMetH Tryd.prog Rows.fnStringAgainRow.laid w) false (World.laidAll Tryd.prog os Rows.fnStringAgainRow.laid) #[.string ByteArray.empty, .string ByteArray.empty, .agg #[.int .i64 0, .int .i64 0, .int .i64 0, .int .i64 0, .int .i64 0, .int .i64 0, .int .i64 0, .int .i64 0, .int .i64 0, .int .i64 0, .int .i64 0, .bool false, .string ByteArray.empty, .bool false, .string ByteArray.empty]] 8 (World.laidAll_os _ _ _)
      (World.shaped_of_ZipB (by kernel_rfl) (by kernel_rfl)) (by kernel_rfl) (by kernel_rfl) (by kernel_rfl)
      (by rw [MakeChecks.laidMetH_plain _ _ _ (by kernel_rfl)]; exact laidMet_laidAll _ (by kernel_rfl) (by kernel_rfl))) ?_
  intro W base args ds gs before hval0 hW _ _ hL _
  have hval : ∀ (j : Nat) t v, Tryd.f9.params[j]? = some t → args[j]? = some v → Value.okWide Tryd.prog W .any base t v := hval0
  have hLm : laidMet Tryd.prog Rows.fnStringAgainRow.laid W := by rw [MakeChecks.laidMetH_plain _ _ _ (by kernel_rfl)] at hL; exact hL
  have eacc : Rows.laid_unicode_utf8_acceptRanges (H := Unit) = Go.Lib.acceptData := by kernel_rfl
  have r1 := Go.Lib.laidMet.reads hLm (n := "unicode/utf8.first") (d := Go.Pinned.utf8First) (List.Mem.tail _ (List.Mem.tail _ (List.Mem.tail _ (List.Mem.tail _ (List.Mem.head _)))))
  have r2 := Go.Lib.laidMet.reads hLm (n := "unicode/utf8.acceptRanges") (d := Rows.laid_unicode_utf8_acceptRanges) (List.Mem.head _)
  rw [eacc] at r2
  have hU := u8Tabs r1 r2
  have eesc : Rows.laid_loop_example_pub_g01450_pub_jsontext_internal_jsonwire_escapeASCII (H := Unit) = Go.Lib.tabData .u8 escTab := by kernel_rfl
  have r3 := Go.Lib.laidMet.reads hLm (n := "loop.example/pub-g01450/pub/jsontext_internal_jsonwire.escapeASCII") (d := Rows.laid_loop_example_pub_g01450_pub_jsontext_internal_jsonwire_escapeASCII) (List.Mem.tail _ (List.Mem.tail _ (List.Mem.head _)))
  rw [eesc] at r3
  have hE := escAt r3
  obtain ⟨E, hI⟩ := invAt (laidMet.tail (laidMet.tail (laidMet.tail hLm)))
  obtain ⟨E2, hF⟩ := eofAt (laidMet.tail hLm)
  have hW' := hW
  obtain ⟨p, q, hA0, hV, _, _, _⟩ := hW
  have hA : DataW.TrodAll enc Tryd.prog W 0 (fun _ => true) true Tryd.f9.params.toList args.toList ds p := hA0
  rw [Tryd.params9] at hA hval
  have hgl := trodVars_len _ _ _ hV
  obtain ⟨g1, g2, rfl⟩ : ∃ g1 g2, gs = [g1, g2] := match gs, hgl with | [x1, x2], _ => ⟨x1, x2, rfl⟩
  obtain ⟨v0, vs0, d0, ds0, p0, q0, hargs, rfl, rfl, h0, r0⟩ := trodAll_cons hA
  obtain ⟨v1, vs1, d1, ds1, p1, q1, rfl, rfl, rfl, h1, r1⟩ := trodAll_cons r0
  obtain ⟨v2, vs2, d2, ds2, p2, q2, rfl, rfl, rfl, h2, r2⟩ := trodAll_cons r1
  obtain ⟨rfl, rfl, rfl⟩ := trodAll_nil r2
  obtain rfl : args = #[v0, v1, v2] := by cases args; simp_all
  obtain ⟨a0, rfl, rfl, rfl, _⟩ := open_string Tryd.underlying9 (hval 0 9 v0 rfl rfl) h0
  obtain ⟨a1, rfl, rfl, rfl, _⟩ := open_string Tryd.underlying9 (hval 1 9 v1 rfl rfl) h1
  obtain ⟨a2, rfl⟩ := openOpts (hval 2 35 v2 rfl rfl) h2
  refine (fnStringAgain_any a0 a1 a2 W ⟨⟨hU, hE, hI⟩, hF⟩).mono fun e W' ⟨he, hb⟩ => ?_
  subst he
  exact ⟨_, rfl, law_post laidOut (by kernel_rfl) (by kernel_rfl) (by kernel_rfl) Tryd.underlying4 rfl hW' hb⟩
theorem said : Rows.FnStringAgainSaid :=
  OpenClaim.holds_of_wide 9 Tryd.f9 rfl rfl rfl rfl rfl rfl rfl ⟨rfl, rfl, rfl, rfl, rfl⟩ rfl rfl rfl rfl rfl (by kernel_rfl) Tryd.func9 (by kernel_rfl)
    (of_decide_eq_true (by kernel_rfl)) (by unfold Func.isWrapper; first | (rw [if_pos (by decide +kernel)]; kernel_rfl) | (rw [if_neg (by decide +kernel)]; exact ⟨rfl, rfl⟩))
    (fun os started H enc _ => lifted os started H enc)
theorem plain (f : FuncId) (fn : Func) (hf : Tryd.pinned.checked.prog.funcNamed "loop.example/pub-g01450/laws.FnStringAgain" = some f) (hfn : Tryd.pinned.checked.prog.funcs[f]? = some fn) :
    false = Tryd.pinned.checked.prog.looks [] ∧ ∀ (j : Nat) t, fn.params[j]? = some t → Tryd.pinned.checked.prog.wantsStandIn t = false := by
  obtain rfl : f = 9 := Option.some.inj ((show Tryd.prog.funcNamed "loop.example/pub-g01450/laws.FnStringAgain" = some 9 by kernel_rfl).symm.trans hf) |>.symm
  obtain rfl : fn = Tryd.f9 := (Option.some.inj (Tryd.func9.symm.trans hfn)).symm
  refine ⟨by kernel_rfl, fun j t ht => ?_⟩
  rw [Tryd.params9] at ht
  have hm : t ∈ [9, 9, 35] := by simpa using Array.mem_of_getElem? ht
  have hall : ([9, 9, 35].all fun u => !Tryd.prog.wantsStandIn u) = true := by kernel_rfl
  exact (show Tryd.prog.wantsStandIn t = false by simpa using List.all_eq_true.1 hall t hm)
theorem card : Rows.FnStringAgainCardSaid :=
  Claim7.holds_tied_plain_at .later [] _ _ _ _ said (fun _ h => by cases h) (by kernel_rfl) (fun _ h => by cases h) fnStringAgain_row_tie rfl ⟨rfl, rfl⟩ (by kernel_rfl) rfl plain (by kernel_rfl)
end fnStringAgain
end Go.Proofs.YtldcoaigecnpfaaDoor
