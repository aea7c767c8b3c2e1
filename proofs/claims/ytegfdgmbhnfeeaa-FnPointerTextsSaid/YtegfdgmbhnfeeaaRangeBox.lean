/- A range over a function whose iterator keeps a variable of its own in a box, and whose body never leaves: of no function of the program. -/
import Derived.Test.YtegfdgmbhnfeeaaProg
import Derived.RangeFuncNested
import Derived.RangeFuncBound
import Derived.RangeFuncCalls
import Derived.RangeFuncLeaves
import Derived.RangeFuncBox
namespace Go.Proofs.Ytegfdgmbhnfeeaa
open Go.RowKit
/-- What a round keeps: all below n₀ but the block B. -/
structure KpB (n₀ B : Nat) (w w' : World) : Prop where
  os : w'.os = w.os
  tape : w'.tape = w.tape
  output : w'.output = w.output
  size : w.heap.size ≤ w'.heap.size
  block : ∀ k, k < n₀ → k ≠ B → w'.heap[k]? = w.heap[k]?
theorem KpB.trans {n₀ B : Nat} {a b c : World} (h : KpB n₀ B a b) (k : KpB n₀ B b c) : KpB n₀ B a c :=
  ⟨k.os.trans h.os, k.tape.trans h.tape, k.output.trans h.output, Nat.le_trans h.size k.size, fun i hi hn => (k.block i hi hn).trans (h.block i hi hn)⟩
theorem KpB.putObj {n₀ B : Nat} (w : World) (l : Nat) (o : Obj) (hl : n₀ ≤ l) : KpB n₀ B w (w.putObj l o) :=
  ⟨rfl, rfl, rfl, by simp [World.putObj], fun _ hk _ => World.putObj_heap_other (by omega)⟩
theorem KpB.of_below {n₀ B : Nat} {w w' : World} (h : Below n₀ w w') : KpB n₀ B w w' := ⟨h.os, h.tape, h.output, h.size, fun k hk _ => h.block k hk⟩
/-- How the body of a round is left: it goes on. -/
def boxPost {α : Type} (Kp : World → World → Prop) (I : List α → World → Prop) (xs : List α) (W : World) : Exit → Act → World → Prop
  | .normal, _, W' => KeepsOthers W W' ∧ Kp W W' ∧ I xs W'
  | _, _, _ => False
variable {F : Fence} {n : Nat} {P : Program}
theorem wpIn_rangeFunc_box {α : Type} {g : Operand} {ps : Array Tmp} {assign body : Code} {Q : Exit → Act → World → Prop} {a : Act} {w : World}
    (hro : F.round = none) (h1 : 1 ≤ n) {gf : Nat} {lb : Array Value} (hg : a.eval g = .func (.func gf) #[] lb) (hFg : F.fn gf) (eg : ∀ args w, (callFunc gf args).run P w = .ok (.enter gf args) w)
    {encs : α → Array Value} (Bp : Nat) (hBp : Bp < w.heap.size) {Kp : World → World → Prop} {S : List α → Prop} {N : Nat} {R : World → Prop} (hRb : ∀ (W : World) (l : Nat) (o : Obj), w.heap.size ≤ l → R W → R (W.putObj l o))
    (hseq : ∀ (l : Nat) (J : List α → World → Prop) (W : World), Below w.heap.size w W → (∀ s A B row, J s A → A.grownBy B row → (∀ r, row = some r → r = Bp) → J s B) →
      (∀ pre x W1, J pre W1 → pre.length < N → R W1 → YieldAt F (n - 1 - 1) P l (encs x) W1 fun e W' => e = .returned (.bool true) ∧ J (pre ++ [x]) W' ∧ Kp W1 W') → J [] W →
      CallsIn F (n - 1) P gf (#[.func (.yield l) #[] #[]] ++ lb) W fun e W' => (∃ v, e = .returned v) ∧ ∃ xs, S xs ∧ J xs W')
    (hKt : ∀ {A B C : World}, Kp A B → Kp B C → Kp A C) (hKb : ∀ (W : World) (l : Nat) (o o' : Obj), w.heap.size ≤ l → W.heap[l]? = some o → Kp W (W.putObj l o')) (hps : ∀ x, (encs x).size = ps.size)
    (I : List α → World → Prop) (hI : ∀ s A B row, I s A → A.grownBy B row → (∀ r, row = some r → r = Bp ∨ (w.heap.size ≤ r ∧ ∃ o : Obj, A.heap[r]? = some o ∧ o.isCells = false)) → I s B) (h0 : I [] w) (a₁ : α → Act)
    (hassign : ∀ (l : Nat) (x : α) (W : World) (K : Act → World → Prop), K (a₁ x) W →
      assign.wpIn (F.inRound l) (n - 1 - 1) P (Exit.then K (fun _ _ _ => False)) { tmps := (ps.zip (encs x)).foldl (fun t (p, v) => t.setIfInBounds p v) a.tmps, defers := [] } W)
    (hbody : ∀ (l : Nat) (pre : List α) (x : α) (W : World), I pre W → pre.length < N → R W → body.wpIn (F.inRound l) (n - 1 - 1) P (boxPost Kp I (pre ++ [x]) W) (a₁ x) W)
    (hdone : ∀ (D : Nat) (xs : List α) (W : World), w.heap.size ≤ D → S xs → I xs W → W.heap[D]? = some (.deferred (some [])) → Q .normal { a with defers := { target := .collected D, args := #[] } :: a.defers } W) :
    (Code.rangeFunc g ps assign body).wpIn F n P Q a w := by
  refine wpIn_rangeFunc ?_
  intro fn hfn
  rw [hro]
  obtain ⟨rec, hrec⟩ : ∃ rec : LoopState → Option Code → Loop, rec = fun st pe => { state := st, pending := pe, fn, tmps := a.tmps, params := ps, assign, body, defers := w.heap.size } := ⟨_, rfl⟩
  obtain ⟨W1, hW1⟩ : ∃ W1, (w.alloc (.deferred (some []))).alloc (.loop (rec .ready none)) = W1 := ⟨_, rfl⟩
  have hL1 : W1.heap[w.heap.size + 1]? = some (.loop (rec .ready none)) := by
    rw [← hW1]; have := World.alloc_heap_new (w.alloc (.deferred (some []))) (.loop (rec .ready none)); rwa [World.size_alloc] at this
  have hK1 : W1.heap[w.heap.size]? = some (.deferred (some [])) := by
    rw [← hW1]; exact (Below.heap_alloc _ _ _ (by simp)).trans (World.alloc_heap_new w _)
  have hb1 : Below w.heap.size w W1 := by
    rw [← hW1]; exact ((Below.refl _ w).alloc (Nat.le_refl _) _).alloc (by simp) _
  have hI1 : I [] W1 := by
    rw [← hW1]
    exact hI _ _ _ none (hI _ _ _ none h0 (World.grownBy_alloc w _ none) (fun r e => by cases e)) (World.grownBy_alloc _ _ none) (fun r e => by cases e)
  have hIp : ∀ s W l (o o' : Obj), I s W → w.heap.size ≤ l → W.heap[l]? = some o → o.isCells = false → I s (W.putObj l o') := fun s W l o o' hi hl ho hc =>
    hI s W _ (some l) hi (grownBy_putObj' W l o') (fun r e => by cases e; exact .inr ⟨hl, o, ho, hc⟩)
  refine ⟨w.heap.size + 1, [{ target := .collected w.heap.size, args := #[] }], W1, { target := .fn (.func gf) lb, args := #[.func (.yield (w.heap.size + 1)) #[] #[]] }, W1, gf,
    #[.func (.yield (w.heap.size + 1)) #[] #[]] ++ lb, W1, ?_, ?_, ?_, ?_, fun _ => h1, ?_⟩
  · rw [← hW1, hrec]; exact run_enterLoop_outer _ _ _ _ _
  · simp only [resolve, hg]
    simp [go_sem]
  · intro f' hf'; simp [Target.leads] at hf'; subst hf'; exact hFg
  · simp [invoke, go_sem, eg]
  · refine (hseq (w.heap.size + 1)
      (fun pre W => I pre W ∧ W.heap[w.heap.size + 1]? = some (.loop (rec .ready none)) ∧ W.heap[w.heap.size]? = some (.deferred (some [])))
      W1 hb1
      (fun s A B row hs hg' hr => by
        have hne : ∀ k o, w.heap.size ≤ k → A.heap[k]? = some o → B.heap[k]? = some o := fun k o hk ho =>
          (hg'.block k (Array.getElem?_eq_some_iff.1 ho).1 (fun e => by have := hr k e.symm; omega)).trans ho
        exact ⟨hI s A B row hs.1 hg' (fun r e => .inl (hr r e)), hne _ _ (by omega) hs.2.1, hne _ _ (Nat.le_refl _) hs.2.2⟩)
      ?_ ⟨hI1, hL1, hK1⟩).mono ?_
    · rintro pre x W ⟨hi, hl, hk⟩ hlen hR
      have hlt : w.heap.size + 1 < W.heap.size := (Array.getElem?_eq_some_iff.1 hl).1
      have hy := run_yield (P := P) (args := encs x) hl (by rw [hrec]; exact hps x)
      rw [hrec] at hy
      refine ⟨fn, _, assign, body, hy, roundIn_of_wpIn hfn (hassign _ x W _ ⟨_, run_beginRound hl (by rw [hrec]), ?_⟩)⟩
      have hl2 : (W.putObj (w.heap.size + 1) (.loop { rec .ready none with state := .busy })).heap[w.heap.size + 1]? = some (.loop { rec .ready none with state := .busy }) := World.putObj_heap_same hlt
      have hk2 : (W.putObj (w.heap.size + 1) (.loop { rec .ready none with state := .busy })).heap[w.heap.size]? = some (.deferred (some [])) := (World.putObj_heap_other (by omega)).trans hk
      have hw2 : Kp W (W.putObj (w.heap.size + 1) (.loop { rec .ready none with state := .busy })) := hKb _ _ _ _ (by omega) hl
      refine wpIn_mono (hbody _ pre x _ (hIp _ _ _ _ _ hi (by omega) hl rfl) hlen (hRb _ _ _ (by omega) hR)) ?_
      rintro e a3 W3 hp
      cases e with
      | normal =>
        obtain ⟨hk3, hkp3, hi3⟩ := hp
        have hl3 := hk3.same _ _ hl2 rfl
        have hr := run_endRound (P := P) none hl3
        rw [hrec] at hr
        rw [hrec] at hl3
        exact ⟨_, _, hr, rfl, ⟨hIp _ _ _ _ _ hi3 (by omega) hl3 rfl, by rw [hrec]; exact World.putObj_heap_same (Array.getElem?_eq_some_iff.1 hl3).1, (World.putObj_heap_other (by omega)).trans (hk3.same _ _ hk2 rfl)⟩, hKt (hKt hw2 hkp3) (hKb _ _ _ _ (by omega) hl3)⟩
      | ret => exact hp.elim
      | exit id => exact hp.elim
      | goto t => exact hp.elim
      | panic ch => exact hp.elim
      | outgrown => exact hp.elim
    · rintro e W2 ⟨⟨v, rfl⟩, xs, hS, hi, hl, hk⟩
      exact ⟨none, _, by have := run_endLoop (P := P) hl (by rw [hrec]; simp); rw [hrec] at this; exact this, hdone _ xs _ (Nat.le_refl _) hS (hIp _ _ _ _ _ hi (by omega) hl rfl) ((World.putObj_heap_other (by omega)).trans hk)⟩
end Go.Proofs.Ytegfdgmbhnfeeaa
