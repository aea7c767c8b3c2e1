/- jsontext's Pointer.Tokens and impl.PointerTokens, walked: the tokens of a pointer, in new memory. -/
import Derived.Test.YtegfdgmbhnfeeaaTokIt
import Derived.Test.YtegfdgmbhnfeeaaSameTexts
import Derived.Maps.AppendAt
namespace Go.Proofs.Ytegfdgmbhnfeeaa
open Go.RowKit Go.Shelf
attribute [local go_sem] Oper.semAt_some
theorem infoStrT : (Try.prog.info? 9).map (fun i => (i.zero, i.size, i.bytes)) = some (some (.string ByteArray.empty), 1, 16) := by kernel_rfl
def TksPost (p : ByteArray) (w : World) (e : Ending) (w' : World) : Prop := e = .returned (.func (.func 45) #[] #[.pointer (some ⟨w.heap.size, 0, none⟩)]) ∧ w' = w.alloc (.cells #[.string p] 40)
theorem tokensS (p : ByteArray) (w : World) : Calls Try.prog 37 #[.string p] w (TksPost p w) := by
  have hmf : ∀ (fn : Fn) (first cap : Array Value) (w : World), (Instr.makeFunc fn first cap).run Try.prog w = .ok (.func fn first cap) w := fun _ _ _ _ => rfl
  go_enter Try.func37, Try.ntmps37
  go_wp2
  go_ret
  exact ⟨rfl, rfl⟩
def PtPost (ts : List (List UInt8)) (w : World) (e : Ending) (w' : World) : Prop := ∃ v, e = .returned v ∧ w'.ownsRow w.heap.size 9 1 v ts.length (encs ts) ∧ Below w.heap.size w w'
set_option maxRecDepth 100000 in
set_option maxHeartbeats 4000000 in
theorem ptrTokens (ts : List (List UInt8)) (w : World) (hsz : (ptrOf ts).length ≤ 2147483647) (hN : ts.length ≤ 100000) :
    Calls Try.prog 25 #[.string (strL (ptrOf ts))] w (PtPost ts w) := by
  obtain ⟨i0, hi, hz0, hz1, hz2⟩ := info_parts infoStrT
  have HIT := Lib.hid fun (n l : Nat) (J : List (List UInt8) → World → Prop) hJ hY W hc h0 => tokIt n l (w.heap.size + 2) ts J hJ hY W hc hsz h0
  generalize ptrOf ts = PP at HIT
  refine (callsIn_wide (n := 3)).1 ?_
  refine callsIn_of_wp_marks Try.func25 rfl trivial ?_ rfl
  simp only [Try.ntmps25, List.size_toArray, List.length_cons, List.length_nil, Nat.reduceAdd, Nat.reduceSub, Array.replicate_succ, Array.replicate_zero, List.push_toArray, List.append_toArray, List.nil_append, List.cons_append]
  gi_wp2
  refine ⟨trivial, (callsIn_wide.2 (tokensS _ _)).mono ?_⟩
  rintro e w' ⟨rfl, rfl⟩
  obtain ⟨W0, hW0⟩ : ∃ W0, W0 = (w.alloc (Obj.cells #[] 9)).alloc (Obj.cells #[.slice (some ⟨w.heap.size, 0, none⟩) 0 0] 30) := ⟨_, rfl⟩
  have s0 : W0.heap.size = w.heap.size + 2 := by rw [hW0]; simp
  have bO : Boxed W0 (w.heap.size + 1) 30 (.slice (some ⟨w.heap.size, 0, none⟩) 0 0) := by
    rw [hW0]
    have := Boxed.new (w.alloc (Obj.cells #[] 9)) 30 (.slice (some ⟨w.heap.size, 0, none⟩) 0 0)
    rw [World.size_alloc] at this
    exact this
  have rO : W0.ownsRow w.heap.size 9 1 (.slice (some ⟨w.heap.size, 0, none⟩) 0 0) 0 [] := by
    rw [hW0]
    exact (World.ownsRow_lit w #[] 0 (Nat.le_refl _) (by decide) rfl).alloc _
  have hB0 : Below w.heap.size w W0 := by rw [hW0]; exact ((Below.refl _ w).alloc (Nat.le_refl _) _).alloc (by simp) _
  have bN := Boxed.new W0 40 (.string (strL PP))
  rw [s0] at bN
  rw [← hW0]
  clear hW0
  gi_wp2
  obtain ⟨W1, hW1⟩ : ∃ W1, W1 = W0.alloc (Obj.cells #[.string (strL PP)] 40) := ⟨_, rfl⟩
  have s1 : W1.heap.size = w.heap.size + 3 := by rw [hW1, World.size_alloc, s0]
  have bO1 : Boxed W1 (w.heap.size + 1) 30 (.slice (some ⟨w.heap.size, 0, none⟩) 0 0) := by rw [hW1]; exact bO.alloc _
  have rO1 : W1.ownsRow w.heap.size 9 1 (.slice (some ⟨w.heap.size, 0, none⟩) 0 0) 0 [] := by rw [hW1]; exact rO.alloc _
  have hB1 : Below w.heap.size w W1 := by rw [hW1]; exact hB0.alloc hB0.size _
  rw [← hW1] at bN ⊢
  clear hW1 bO rO hB0
  refine wpIn_rangeFunc_box (α := List UInt8) rfl (by omega) (gf := 45) (lb := #[.pointer (some ⟨w.heap.size + 2, 0, none⟩)]) rfl trivial (enters_of Try.func45 (by kernel_rfl) rfl)
    (encs := fun x => #[.string (strL x)]) (w.heap.size + 2) (by omega) (Kp := fun W W' => W'.heap[w.heap.size + 2]? = W.heap[w.heap.size + 2]?) (S := fun xs => xs = ts) (N := ts.length) (R := fun W => ∃ s, Boxed W (w.heap.size + 2) 40 (.string s))
    (fun W l o hl ⟨s, hs⟩ => ⟨s, (World.putObj_heap_other (by omega)).trans hs⟩)
    (fun l J W hb hJ hY h0 => HIT.out 2 l J hJ hY W ((hb.block (w.heap.size + 2) (by omega)).trans bN) h0)
    (fun a b => b.trans a) (fun W l o o' hl _ => World.putObj_heap_other (by omega)) (fun _ => rfl)
    (fun pre W => (∃ v, Boxed W (w.heap.size + 1) 30 v ∧ W.ownsRow w.heap.size 9 1 v pre.length (encs pre) ∧ ∀ g, v.ownBlock = some g → g ≠ w.heap.size + 2) ∧ Below w.heap.size w W)
    ?hI ⟨⟨_, bO1, rO1, fun g e => by simp [Value.ownBlock] at e; omega⟩, hB1⟩
    (fun x => { tmps := #[.string (strL PP), undef, .slice none 0 0, .pointer (some ⟨w.heap.size + 1, 0, none⟩), .string (strL x), .slice (some ⟨w.heap.size, 0, none⟩) 0 0, .string (strL PP), .func (.func 45) #[] #[.pointer (some ⟨w.heap.size + 2, 0, none⟩)], .string (strL x), undef, undef, undef, undef, undef], defers := [] }) ?assign ?body ?done
  case hI =>
    rintro pre X Y row ⟨⟨v, hv, hrow, hap⟩, hB⟩ hg hr
    have hBne : some (w.heap.size + 1) ≠ row := fun e => by
      rcases hr _ e.symm with q | ⟨q, _⟩ <;> omega
    refine ⟨⟨v, hv.kept hg hBne, hrow.kept hg ?_, hap⟩, ?_⟩
    · rcases hrow.2 with ⟨rfl, _⟩ | ⟨g, cap, cur, rfl, _, hgb, _⟩
      · exact .inl rfl
      · refine .inr fun e => ?_
        rcases hr g (by simpa [Value.ownBlock] using e.symm) with q | ⟨_, o, ho, hc⟩
        · exact hap g rfl q
        · rw [hgb] at ho; cases ho; cases hc
    · exact hB.grown hg hB.size (fun k e => by rcases hr k e with q | ⟨q, _⟩ <;> omega)
  case assign =>
    intro l x W K hK
    gi_wp2
    exact hK
  case body =>
    rintro l pre x W ⟨⟨v, hv, hrow, hap⟩, hB⟩ hlt ⟨sb, hR⟩
    have hc := hv.cell
    gi_wp2_with (gi_at_builtin; refine wpListIn_append_own _ rfl _ _ 30 rfl w.heap.size 9 i0 (.string ByteArray.empty) 1 16 Try.underlying30 hi hz0 hz1 hz2 rfl (by decide) _ _ _ rfl (hrow.alloc _) ⟨W.heap.size, 0, none⟩ 1 1 [.string (strL x)] rfl rfl (cell_one_new _ _ _) (by simp [Value.oneCell']) (by unfold maxLen; omega) (by omega) (by have := hB.size; simp; omega) ?_; intro v' w1 hown' hgrow _; obtain ⟨g', cap', rfl⟩ := ownsRow_succ hown'; obtain ⟨hv1, hv2, hr2, hk2, hb2⟩ := hv.appended (by decide) hrow hB.size (Nat.le_succ _) hown' hgrow; have hc1 := hv1.cell; have hf1 := hv1.frozen)
    have e1 : w1.heap[w.heap.size + 2]? = W.heap[w.heap.size + 2]? := by
      have hlt2 := hR.lt
      have h1 := hgrow.block (w.heap.size + 2) (by simp; omega) (fun e => hap _ e.symm rfl)
      exact h1.trans (Below.heap_alloc W _ _ hlt2)
    have hRb : Boxed w1 (w.heap.size + 2) 40 (.string sb) := e1.trans hR
    have hne := hRb.not_row (by decide) hown'
    refine ⟨hk2, (Below.heap_setCell _ _ _ _ (by show w.heap.size + 2 ≠ w.heap.size + 1; omega)).trans e1, ⟨_, hv2, ?_, fun g e => ?_⟩, hB.trans hb2⟩
    · have e2 : encs (pre ++ [x]) = encs pre ++ [.string (strL x)] := by simp [encs]; rfl
      rw [e2, List.length_append]
      exact hr2
    · intro q
      subst q
      exact hne e.symm
  case done =>
    rintro D xs W hD rfl ⟨⟨v, hv, hrow, _⟩, hB⟩ hK
    have hc := hv.cell
    gi_wp2
    refine ⟨by simp, .inl ⟨_, _, rfl, run_takeDeferred hK, ?_⟩⟩
    exact ⟨_, results_tmp rfl _ _ _, v, rfl, ownsRow_putObj hrow _ hK rfl, hB.trans (belowK_b (w := w) (Nat.le_refl _) W D _ _ (by omega) hK rfl rfl)⟩
end Go.Proofs.Ytegfdgmbhnfeeaa
