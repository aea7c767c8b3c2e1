/- How the row of a law is closed once its walk is there: over any program. The law returns true and leaves all that lay below as it was; then each argument and each named variable reads as it read. -/
import Derived.WalkKit
import Derived.ProofKit
import Derived.OpenShut
import Derived.JoinedCond
import Derived.Deep.DeepHandedRow
import Derived.Lib.SmallJoins
namespace Go.Proofs.Ytegfdgmbhnfeeaa
open Go.ChangeShapes Go.WideShapes Go.ChangeAt Go.RowKit

section
variable {H : Type} {enc : TypeId × Value → H} {P : Program}

theorem trodAll_below (hl : laidOutB P = true) {W W' : World} (hb : Below W.heap.size W W') : ∀ (ts : List TypeId), (ts.all fun t => P.readableRec t && decide (t < P.types.size)) = true →
    ∀ (vs : List Value) (ds : List (DataW H)) (ps : List MemPlace), DataW.TrodAll enc P W 0 (fun _ => true) true ts vs ds ps → (∀ x ∈ ps, x.block < W.heap.size) →
      DataW.TrodAll enc P W' 0 (fun b => decide (b < W.heap.size)) true ts vs ds ps
  | [], _, vs, ds, ps, h, _ => by
    cases vs <;> cases ds <;> simp [DataW.TrodAll] at h
    subst h
    rfl
  | t :: ts, hts, vs, ds, ps, h, hlt => by
    simp only [List.all_cons, Bool.and_eq_true, decide_eq_true_eq] at hts
    obtain ⟨v, vs', d, ds', p, q, rfl, rfl, rfl, h0, h1⟩ := trodAll_cons h
    exact ⟨p, q, Below.trod hl hts.1.1 hts.1.2 h0 hb (fun x hx => hlt x (List.mem_append.2 (Or.inl hx))), trodAll_below hl hb ts hts.2 vs' ds' q h1 (fun x hx => hlt x (List.mem_append.2 (Or.inr hx))), rfl⟩

def varFine (P : Program) (n : String) : Bool :=
  match P.globalNamed n with
  | some g =>
    match P.globals[g]? with
    | some x => P.readableRec x.type && decide (x.type < P.types.size)
    | none => false
  | none => false

theorem trodVars_below (hl : laidOutB P = true) {W W' : World} (hb : Below W.heap.size W W') : ∀ (ns : List String), (ns.all (varFine P)) = true →
    ∀ (ds : List (DataW H)) (ps : List MemPlace), DataW.TrodVars enc P W (fun _ => true) ns ds ps → (∀ x ∈ ps, x.block < W.heap.size) →
      DataW.TrodVars enc P W' (fun b => decide (b < W.heap.size)) ns ds ps
  | [], _, ds, ps, h, _ => by
    obtain ⟨rfl, rfl⟩ := trodVars_none h
    rfl
  | n :: ns, hns, ds, ps, h, hlt => by
    simp only [List.all_cons, Bool.and_eq_true] at hns
    match ds, h with
    | d :: ds', h =>
      obtain ⟨g, t, cs, fuel, p, q, hg, ht, hv, hd, hr, rfl⟩ := h
      have hfine := hns.1
      unfold varFine at hfine
      rw [hg] at hfine
      simp only at hfine
      cases hx : P.globals[g]? with
      | none => rw [hx] at ht; cases ht
      | some x =>
        rw [hx] at ht hfine
        simp only at hfine
        obtain rfl : x.type = t := by simpa using ht
        simp only [Bool.and_eq_true, decide_eq_true_eq] at hfine
        have hgs : g < W.heap.size := by
          unfold World.var? at hv
          rw [hg] at hv
          simp only [Option.bind_some] at hv
          by_cases hh : g < W.heap.size
          · exact hh
          · rw [Array.getElem?_eq_none (by omega)] at hv; cases hv
        have hp : ∀ x ∈ p, x.block < W.heap.size := fun x hx => hlt x (List.mem_append.2 (Or.inl (List.mem_append.2 (Or.inr hx))))
        refine ⟨g, x.type, cs, fuel, p, q, hg, by rw [hx]; rfl, ?_, ?_, trodVars_below hl hb ns hns.2 ds' q hr (fun x hx => hlt x (List.mem_append.2 (Or.inr hx))), rfl⟩
        · exact Joins.var_stays hg hv hb (Nat.le_refl _)
        · exact DataW.trod_stays (kids_book hl hfine.1) (book_sized hfine.1) (fun h => by cases h) ⟨hfine.2, book_self _⟩ hd (fun y hy => hb.same (hp y hy)) (fun y hy => by simpa using hp y hy)

/-- THE CLOSE. -/
theorem law_post {f : Func} {s : ChangeSpec} {apart fresh : Bool} {W W' : World} {args : Array Value} {ds gs : List (DataW H)} {before : List MemPlace} {t : TypeId}
    (hl : laidOutB P = true) (hts : (f.params.toList.all fun t => P.readableRec t && decide (t < P.types.size)) = true) (hvs : (s.vars.all (varFine P)) = true)
    (hres : f.resultTypes = #[t]) (hbool : P.underlying t = some .bool)
    (hspec : s.fn H (ds ++ gs) = { results := [.lit (.bool true)], args := ds, vars := gs })
    (hW : DataW.Whole enc P f.params.toList s.vars apart W args.toList ds gs before) (hb : Below W.heap.size W W') :
    s.post enc P f apart fresh false false W args (.bool true) W' := by
  have hlt := hW.lt
  have hW' := hW
  obtain ⟨p, q, hA, hV, rfl, _, _⟩ := hW
  refine ⟨ds, gs, p ++ q, [], p, q, hW', ?_, ?_, ?_, hb.frame _, fun h => by cases h⟩
  · rw [hspec, hres]
    exact trodAll_mk1 (shut_bool hbool _)
  · rw [hspec]
    exact trodAll_below hl hb _ hts _ _ _ hA (fun x hx => hlt x (List.mem_append.2 (Or.inl hx)))
  · rw [hspec]
    exact trodVars_below hl hb _ hvs _ _ hV (fun x hx => hlt x (List.mem_append.2 (Or.inr hx)))
end
end Go.Proofs.Ytegfdgmbhnfeeaa
