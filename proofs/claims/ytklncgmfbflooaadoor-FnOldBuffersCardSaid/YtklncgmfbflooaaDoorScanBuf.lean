/- A scanner and a buffer that grows beside it: each keeps clear of the other. -/
import Derived.Test.YtklncgmfbflooaaDoorKScanCheck
import Derived.Test.YtklncgmfbflooaaDoorBuf
namespace Go.Proofs.YtklncgmfbflooaaDoor
open Go.RowKit
theorem kp_plain [K : Keep] {w : World} {S B : Nat} {s : Cfg} (h : Kp.ScAt w S B s) : ScAt w S B s := ⟨h.c0, h.c1, h.c2, h.c3, h.c4, h.fz, h.lt, h.le⟩
/-- A scanner, and a slice of bytes that lies in none of its blocks. -/
structure ScB (w : World) (S B : Nat) (s : Cfg) (v : Value) : Prop where
  sc : ScAt w S B s
  ap : ∀ g, v.ownBlock = some g → g < w.heap.size ∧ g ≠ S ∧ ∀ u, w.cell? ⟨S, 2, none⟩ = some u → u.ownBlock ≠ some g
theorem ScB.kept {w : World} {S B : Nat} {s : Cfg} {v : Value} (h : ScB w S B s v) (g : Nat) (e : v.ownBlock = some g) : @Kp.ScAt ⟨g⟩ w S B s :=
  @Kp.ScAt.mk ⟨g⟩ w S B s h.sc.c0 h.sc.c1 h.sc.c2 h.sc.c3 h.sc.c4 h.sc.fz h.sc.lt h.sc.le (h.ap g e).2.2 (h.ap g e).1 (h.ap g e).2.1
theorem ScB.back {w : World} {S B : Nat} {s : Cfg} {v : Value} {g : Nat} (e : v.ownBlock = some g) (h : @Kp.ScAt ⟨g⟩ w S B s) : ScB w S B s v :=
  ⟨@kp_plain ⟨g⟩ w S B s h, fun g' e' => by
    obtain rfl : g = g' := Option.some.inj (e.symm.trans e')
    letI : Keep := ⟨g⟩
    exact ⟨h.dl, h.ds, h.dr⟩⟩
theorem ScB.bare {w : World} {S B : Nat} {s : Cfg} {v : Value} (e : v.ownBlock = none) (h : ScAt w S B s) : ScB w S B s v :=
  ⟨h, fun g e' => by rw [e] at e'; cases e'⟩
/-- A step leaves the buffer's row as it was. -/
def StepB (S B : Nat) (r : Cfg × Int) (v : Value) (w : World) (e : Ending) (w' : World) : Prop :=
  e = .returned (.int .i64 r.2) ∧ ScB w' S B r.1 v ∧ Gr2 B w w' S S ∧ ∀ g, v.ownBlock = some g → w'.heap[g]? = w.heap[g]?
theorem stepB (q : Q) (S B : Nat) (s : Cfg) (c : Int) (v : Value) (w : World) (h : ScB w S B s v) (hok : okC s) (hc : 0 ≤ c) (hne : q = .BSE → ¬ s.st = []) :
    Calls Tryd.prog (fid q) #[.pointer (some ⟨S, 0, none⟩), .int .u8 c] w (StepB S B (stepM q s c) v w) := by
  cases e : v.ownBlock with
  | none => exact (stepS q S B s c w h.sc hok hc hne).mono fun e' w' ⟨a, b, g⟩ => ⟨a, .bare e b, g, fun g' hg' => by rw [e] at hg'; cases hg'⟩
  | some g =>
    letI : Keep := ⟨g⟩
    exact (@Kp.stepS ⟨g⟩ q S B s c w (h.kept g e) hok hc hne).mono fun e' w' ⟨a, b, gr⟩ => ⟨a, .back e b, gr.g, fun g' hg' => by
      obtain rfl : g = g' := Option.some.inj (e.symm.trans hg')
      exact gr.d (h.ap g e).2.1 (h.ap g e).2.1 (h.ap g e).1⟩
def EofB (b : Bool) (S B : Nat) (v : Value) (w : World) (e : Ending) (w' : World) : Prop :=
  ∃ s', e = .returned (.int .i64 (if b = true then 10 else 11)) ∧ ScB w' S B s' v ∧ Gr2 B w w' S S ∧ (b = false → s'.er = true) ∧ ∀ g, v.ownBlock = some g → w'.heap[g]? = w.heap[g]?
theorem eofB (S B k : Nat) (s : Cfg) (v : Value) (w : World) (h : ScB w S B s v) (hi : InvC s k) (hk : k < 10000) :
    Calls Tryd.prog 71 #[.pointer (some ⟨S, 0, none⟩)] w (EofB (eofM s) S B v w) := by
  cases e : v.ownBlock with
  | none => exact (eofS S B k s w h.sc hi hk).mono fun e' w' ⟨s', a, b, g, r⟩ => ⟨s', a, .bare e b, g, r, fun g' hg' => by rw [e] at hg'; cases hg'⟩
  | some g =>
    letI : Keep := ⟨g⟩
    exact (@Kp.eofS ⟨g⟩ S B k s w (h.kept g e) hi hk).mono fun e' w' ⟨s', a, b, gr, r⟩ => ⟨s', a, .back e b, gr.g, r, fun g' hg' => by
      obtain rfl : g = g' := Option.some.inj (e.symm.trans hg')
      exact gr.d (h.ap g e).2.1 (h.ap g e).2.1 (h.ap g e).1⟩
theorem freeB (S B : Nat) (s : Cfg) (v : Value) (u : FrameMode) (w : World) (h : ScB w S B s v) :
    CallsD Tryd.prog 73 #[.pointer (some ⟨S, 0, none⟩)] u w fun e u' w' => u' = u ∧ (e = .returned (.tuple #[]) ∧ Gr2 B w w' S S ∧ ∀ g, v.ownBlock = some g → w'.heap[g]? = w.heap[g]?) := by
  cases e : v.ownBlock with
  | none => exact (freeD S B s u w h.sc).mono fun e' u' w' ⟨a, b, g⟩ => ⟨a, b, g, fun g' hg' => by cases hg'⟩
  | some g =>
    letI : Keep := ⟨g⟩
    exact (@Kp.freeD ⟨g⟩ S B s u w (h.kept g e)).mono fun e' u' w' ⟨a, b, gr⟩ => ⟨a, b, gr.g, fun g' hg' => by
      obtain rfl : g = g' := Option.some.inj hg'
      exact gr.d (h.ap g e).2.1 (h.ap g e).2.1 (h.ap g e).1⟩
theorem Buf.owned {w : World} {base : Nat} {G : Option (Nat × Nat)} {v : Value} {l : List UInt8} (h : Buf w base G v l) : ∀ g, v.ownBlock = some g → base ≤ g ∨ ∃ o, G = some (g, o) := by
  intro g hg
  rcases h with ⟨rfl, _⟩ | ⟨g', o, cap, cur, fz, rfl, ha, _⟩
  · cases hg
  · obtain rfl : g' = g := Option.some.inj hg
    exact ha.imp id fun e => ⟨o, e⟩
theorem place_own {v : Value} {g o : Nat} (h : place v = some (g, o)) : v.ownBlock = some g := by
  unfold place at h
  split at h
  · injection h with h
    injection h with h _
    subst h
    rfl
  · cases h
/-- The buffer grows. -/
theorem ScB.more {w w' : World} {S B base : Nat} {G : Option (Nat × Nat)} {s : Cfg} {v v' : Value} {l l' : List UInt8} (h : ScB w S B s v) (hB : Buf w base G v l) (hbase : base ≤ w.heap.size) (hG : ∀ g o, G = some (g, o) → g < base)
    (hb : Buf w' w.heap.size (place v) v' l') (hg : w.grownBy w' v.ownBlock) (hf : Fr w.heap.size (place v) w w') : ScB w' S B s v' ∧ Buf w' base G v' l' ∧ Fr base G w w' := by
  refine ⟨?_, hB.unbase hb hbase, hf.unbase hB hbase hG⟩
  have hS : S < w.heap.size := Nat.lt_of_lt_of_le h.sc.lt h.sc.le
  have hbk : w'.heap[S]? = w.heap[S]? := hg.block S hS (fun e => (h.ap S e.symm).2.1 rfl)
  obtain ⟨u, h2, o2⟩ := h.sc.c2
  obtain ⟨x, h3, e1, e2⟩ := h.sc.c3
  obtain ⟨n, h4⟩ := h.sc.c4
  have hapart : u.ownBlock = none ∨ u.ownBlock ≠ v.ownBlock := by
    cases e : v.ownBlock with
    | none => cases e' : u.ownBlock with
      | none => exact .inl rfl
      | some g => exact .inr (by simp)
    | some g => exact .inr ((h.ap g e).2.2 u h2)
  have hsyn : ∀ p, SynAt w p → v.ownBlock ≠ some p := fun p hs e => by
    obtain ⟨a, b, hs⟩ := hs
    rcases hB with ⟨rfl, _⟩ | ⟨g', o, cap, cur, fz, rfl, _, hh, _⟩
    · cases e
    · obtain rfl : g' = p := Option.some.inj e
      rw [hs] at hh
      injection hh with hh
      injection hh with _ hh _
      exact absurd hh (by decide)
  refine ⟨⟨(World.cell?_of_block (a := ⟨S, 0, none⟩) hbk).trans h.sc.c0, (World.cell?_of_block (a := ⟨S, 1, none⟩) hbk).trans h.sc.c1, ⟨u, (World.cell?_of_block (a := ⟨S, 2, none⟩) hbk).trans h2, o2.kept hg hapart⟩, ⟨x, (World.cell?_of_block (a := ⟨S, 3, none⟩) hbk).trans h3, e1, syn_kept e2 (fun p _ hs => hg.block p hs.lt (fun e => hsyn p hs e.symm))⟩, ⟨n, (World.cell?_of_block (a := ⟨S, 4, none⟩) hbk).trans h4⟩, fun j => (World.frozen?_of_block (a := ⟨S, j, none⟩) hbk).trans (h.sc.fz j), h.sc.lt, Nat.le_trans h.sc.le hg.size⟩, fun g e => ?_⟩
  refine ⟨hb.block g e, ?_, fun u' hu' => ?_⟩
  · rcases hb.owned g e with q | ⟨o, q⟩
    · omega
    · exact (h.ap g (place_own q)).2.1
  · rw [World.cell?_of_block (a := ⟨S, 2, none⟩) hbk] at hu'
    rcases hb.owned g e with q | ⟨o, q⟩
    · intro e'
      obtain rfl : u = u' := Option.some.inj (h2.symm.trans hu')
      have := (o2.lt g e').2
      omega
    · exact (h.ap g (place_own q)).2.2 u' hu'
/-- Beside a fresh scanner. -/
theorem ScB.new {w w' : World} {base : Nat} {G : Option (Nat × Nat)} {v : Value} {l : List UInt8} (hB : Buf w base G v l) (h : ScAt w' w.heap.size (w.heap.size + 1) c0C) (hs : w.heap.size ≤ w'.heap.size) : ScB w' w.heap.size (w.heap.size + 1) c0C v :=
  ⟨h, fun g e => by
    have hl := hB.block g e
    refine ⟨by omega, by omega, fun u hu e' => ?_⟩
    obtain ⟨u', h2, o2⟩ := h.c2
    obtain rfl : u = u' := Option.some.inj (hu.symm.trans h2)
    have := (o2.lt g e').1
    omega⟩
/-- What a step leaves of a frame. -/
theorem Gr2.fr {S B base : Nat} {G : Option (Nat × Nat)} {w w' : World} (h : Gr2 B w w' S S) (hS : base ≤ S) (hB : S < B) (hG : ∀ g o, G = some (g, o) → g < base) : Fr base G w w' :=
  Fr.of_below ⟨h.os, h.tape, h.output, h.size, fun k hk => h.block k (by omega) (by omega) (by omega)⟩ hG
end Go.Proofs.YtklncgmfbflooaaDoor
