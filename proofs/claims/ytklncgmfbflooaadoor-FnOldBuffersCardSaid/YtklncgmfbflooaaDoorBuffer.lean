/- bytes.Buffer whose offset is 0, over bytes that lie in a row, whatever its freeze: what it holds, and its methods Len, tryGrowByReslice, grow, Grow, AvailableBuffer, Write, String, walked. -/
import Derived.Test.YtklncgmfbflooaaDoorGrowS
import Derived.Test.YtklncgmfbflooaaDoorHtml
import Derived.WalkLawsBesides
import Derived.WalkSpells
import Derived.BigQuiet
import Derived.Deep.QuietTactic
import Derived.Lib.Hide
import Derived.Lib.BufferMore
import Derived.Deep.RegionWith
import Derived.Deep.RegionLaw
import Derived.Deep.Draws
import Derived.BigCall
import Derived.BigGuard
namespace Go.Proofs.YtklncgmfbflooaaDoor
open Go.RowKit
/-- The struct at p, but for its bytes. -/
structure BHead (w : World) (p : Nat) (v : Value) : Prop where
  c0 : w.cell? ⟨p, 0, none⟩ = some v
  c1 : w.cell? ⟨p, 1, none⟩ = some (.int .i64 0)
  c2 : ∃ r, w.cell? ⟨p, 2, none⟩ = some (.int .i8 r)
  fz : ∀ j, w.frozen? ⟨p, j, none⟩ = false
  lt : p < w.heap.size
theorem BHead.drewN {w : World} {p : Nat} {v : Value} (h : BHead w p v) (k : Nat) : BHead (w.drewN k) p v := by
  cases k with
  | zero => exact h
  | succ k => exact ⟨h.c0, h.c1, h.c2, h.fz, h.lt⟩
/-- What stays: all below but p. -/
structure Gp (p : Nat) (w w' : World) : Prop where
  os : w'.os = w.os
  tape : w'.tape = w.tape
  output : w'.output = w.output
  size : w.heap.size ≤ w'.heap.size
  block : ∀ k, k < w.heap.size → k ≠ p → w'.heap[k]? = w.heap[k]?
theorem Gp.refl (p : Nat) (w : World) : Gp p w w := ⟨rfl, rfl, rfl, Nat.le_refl _, fun _ _ _ => rfl⟩
theorem Gp.trans {p : Nat} {a b c : World} (h : Gp p a b) (k : Gp p b c) : Gp p a c :=
  ⟨k.os.trans h.os, k.tape.trans h.tape, k.output.trans h.output, Nat.le_trans h.size k.size, fun i hi hn => (k.block i (Nat.lt_of_lt_of_le hi h.size) hn).trans (h.block i hi hn)⟩
theorem Gp.of_below {p : Nat} {w w' : World} (h : Below w.heap.size w w') : Gp p w w' := ⟨h.os, h.tape, h.output, h.size, fun k hk _ => h.block k hk⟩
theorem BHead.set {w : World} {p : Nat} {v : Value} (h : BHead w p v) (u : Value) : BHead (w.setCell ⟨p, 0, none⟩ u) p u := by
  obtain ⟨r, h2⟩ := h.c2
  exact ⟨World.cell?_setCell_same _ _ _ h.c0, (World.cell?_setCell_other _ _ _ _ (by simp)).trans h.c1, ⟨r, (World.cell?_setCell_other _ _ _ _ (by simp)).trans h2⟩, fun j => by rw [World.frozen?_setCell]; exact h.fz j, by simpa [World.setCell] using h.lt⟩
theorem BHead.set1 {w : World} {p : Nat} {v : Value} (h : BHead w p v) : BHead (w.setCell ⟨p, 1, none⟩ (.int .i64 0)) p v := by
  obtain ⟨r, h2⟩ := h.c2
  exact ⟨(World.cell?_setCell_other _ _ _ _ (by simp)).trans h.c0, World.cell?_setCell_same _ _ _ h.c1, ⟨r, (World.cell?_setCell_other _ _ _ _ (by simp)).trans h2⟩, fun j => by rw [World.frozen?_setCell]; exact h.fz j, by simpa [World.setCell] using h.lt⟩
theorem BHead.set2 {w : World} {p : Nat} {v : Value} (h : BHead w p v) (q : Int) : BHead (w.setCell ⟨p, 2, none⟩ (.int .i8 q)) p v := by
  obtain ⟨r, h2⟩ := h.c2
  exact ⟨(World.cell?_setCell_other _ _ _ _ (by simp)).trans h.c0, (World.cell?_setCell_other _ _ _ _ (by simp)).trans h.c1, ⟨q, World.cell?_setCell_same _ _ _ h2⟩, fun j => by rw [World.frozen?_setCell]; exact h.fz j, by simpa [World.setCell] using h.lt⟩
theorem BHead.below {w w' : World} {p : Nat} {v : Value} (h : BHead w p v) (b : Below w.heap.size w w') : BHead w' p v := by
  obtain ⟨r, h2⟩ := h.c2
  have e := b.block p h.lt
  exact ⟨(World.cell?_of_block (a := ⟨p, 0, none⟩) e).trans h.c0, (World.cell?_of_block (a := ⟨p, 1, none⟩) e).trans h.c1, ⟨r, (World.cell?_of_block (a := ⟨p, 2, none⟩) e).trans h2⟩, fun j => by have := h.fz j; unfold World.frozen? at this ⊢; rw [e]; exact this, Nat.lt_of_lt_of_le h.lt b.size⟩
theorem Gp.set {p : Nat} {a b : World} (h : Gp p a b) (j : Nat) (v : Value) : Gp p a (b.setCell ⟨p, j, none⟩ v) :=
  h.trans ⟨rfl, rfl, rfl, by simp [World.setCell], fun i _ hn => Below.heap_setCell _ _ _ _ hn⟩
theorem Gp.drewN {p : Nat} {a b : World} (h : Gp p a b) (k : Nat) : Gp p a (b.drewN k) := by
  cases k with
  | zero => exact h
  | succ k => exact ⟨h.os, h.tape, h.output, h.size, h.block⟩
theorem Buf.setP {w : World} {base p j g o n c : Nat} {G : Option (Nat × Nat)} {l : List UInt8} (h : Buf w base G (.slice (some ⟨g, o, none⟩) n c) l) (hp : g ≠ p) (v : Value) : Buf (w.setCell ⟨p, j, none⟩ v) base G (.slice (some ⟨g, o, none⟩) n c) l :=
  h.kept fun k e => by
    simp [Value.ownBlock] at e
    subst e
    exact Below.heap_setCell _ _ _ _ hp
/-- What grow leaves. -/
def GrewPost (p g0 o0 c0 n m : Nat) (L : List UInt8) (w : World) (e : Ending) (w' : World) : Prop :=
  ∃ g o c, e = .returned (.int .i64 L.length) ∧ BHead w' p (.slice (some ⟨g, o, none⟩) m c) ∧ Buf w' 0 none (.slice (some ⟨g, o, none⟩) L.length c) L ∧ L.length + n ≤ c ∧ g ≠ p ∧ Gp p w w' ∧ ((g = g0 ∧ o = o0 ∧ c = c0) ∨ w.heap.size ≤ g)
def LenPost (n : Nat) (w : World) (e : Ending) (w' : World) : Prop := e = .returned (.int .i64 n) ∧ ∃ k, w' = w.drewN k
set_option maxHeartbeats 1000000 in
theorem lenS (p g o l c : Nat) (w : World) (h : BHead w p (.slice (some ⟨g, o, none⟩) l c)) (hl : l ≤ 1000000000) : Calls Tryd.prog 79 #[.pointer (some ⟨p, 0, none⟩)] w (LenPost l w) := by
  have c0 := h.c0
  have c1 := h.c1
  clear h
  go_enter Tryd.func79, Tryd.ntmps79
  go_wp2
  go_quiet (fail)
  go_wp2
  go_ret
  exact ⟨rfl, _, rfl⟩
/-- tryGrowByReslice where there is room. -/
def TryPost (ok : Bool) (p g o l c n : Nat) (w : World) (e : Ending) (w' : World) : Prop :=
  if ok then e = .returned (.tuple #[.int .i64 l, .bool true]) ∧ w' = w.setCell ⟨p, 0, none⟩ (.slice (some ⟨g, o, none⟩) (l + n) c) else e = .returned (.tuple #[.int .i64 0, .bool false]) ∧ w' = w
set_option maxHeartbeats 1000000 in
theorem tryGrow (ok : Bool) (p g o l c n : Nat) (w : World) (h : BHead w p (.slice (some ⟨g, o, none⟩) l c)) (hlc : l ≤ c) (hc : c ≤ maxLen) (hl : l ≤ 1000000000) (hn : n ≤ 1000000000) (hok : ok = decide (l + n ≤ c)) :
    Calls Tryd.prog 64 #[.pointer (some ⟨p, 0, none⟩), .int .i64 n] w (TryPost ok p g o l c n w) := by
  have c0 := h.c0
  have fz := h.fz
  have hc' : (c : Int) ≤ 9223372036854775807 := by unfold maxLen at hc; omega
  have hlc' : (l : Int) ≤ c := by omega
  have hl' : (l : Int) ≤ 1000000000 := by omega
  have hn' : (n : Int) ≤ 1000000000 := by omega
  clear h
  cases ok
  · have hq : ¬ (l + n ≤ c) := by simpa using hok.symm
    have hq' : ¬ ((n : Int) ≤ (c : Int) - (l : Int)) := by omega
    clear hok hq hc
    show Calls _ _ _ _ (fun e w' => e = .returned (.tuple #[.int .i64 0, .bool false]) ∧ w' = w)
    go_enter Tryd.func64, Tryd.ntmps64
    go_wp2
    go_ret2
    exact ⟨rfl, rfl⟩
  · have hq : l + n ≤ c := by simpa using hok.symm
    have hq' : ((n : Int) ≤ (c : Int) - (l : Int)) := by omega
    have i3 : ((l : Int) + (n : Int)).toNat = l + n := by omega
    clear hok hc
    show Calls _ _ _ _ (fun e w' => e = .returned (.tuple #[.int .i64 l, .bool true]) ∧ w' = w.setCell ⟨p, 0, none⟩ (.slice (some ⟨g, o, none⟩) (l + n) c))
    go_enter Tryd.func64, Tryd.ntmps64
    go_wp2
    go_ret2
    exact ⟨rfl, rfl⟩
set_option maxRecDepth 100000 in
set_option maxHeartbeats 4000000 in
theorem growS (p g o c n : Nat) (L : List UInt8) (w : World) (h : BHead w p (.slice (some ⟨g, o, none⟩) L.length c)) (hB : Buf w 0 none (.slice (some ⟨g, o, none⟩) L.length c) L) (hpg : g ≠ p)
    (hlc : L.length ≤ c) (hc : c ≤ maxLen) (hL : L.length ≤ 100000000) (hn : n ≤ 100000000) :
    Calls Tryd.prog 63 #[.pointer (some ⟨p, 0, none⟩), .int .i64 n] w (GrewPost p g o c n (L.length + n) L w) := by
  have HL : Hid (∀ W, BHead W p (.slice (some ⟨g, o, none⟩) L.length c) → Calls Tryd.prog 79 #[.pointer (some ⟨p, 0, none⟩)] W (LenPost L.length W)) := fun W hW => lenS p g o L.length c W hW (by omega)
  have HT : Hid (∀ W, BHead W p (.slice (some ⟨g, o, none⟩) L.length c) → Calls Tryd.prog 64 #[.pointer (some ⟨p, 0, none⟩), .int .i64 n] W (TryPost (decide (L.length + n ≤ c)) p g o L.length c n W)) := fun W hW => tryGrow _ p g o L.length c n W hW hlc hc (by omega) (by omega) rfl
  have H := Lib.hid h
  by_cases hr : L.length + n ≤ c
  · have hfin : Hid (∀ k, GrewPost p g o c n (L.length + n) L w (.returned (.int .i64 L.length)) ((w.drewN k).setCell ⟨p, 0, none⟩ (.slice (some ⟨g, o, none⟩) (L.length + n) c))) := fun k =>
      ⟨g, o, c, rfl, (h.drewN k).set _, (hB.drewN k).setP hpg _, hr, hpg, ((Gp.refl p w).drewN k).set _ _, .inl ⟨rfl, rfl, rfl⟩⟩
    have HT2 : Hid (∀ W, BHead W p (.slice (some ⟨g, o, none⟩) L.length c) → Calls Tryd.prog 64 #[.pointer (some ⟨p, 0, none⟩), .int .i64 n] W (fun e w' => e = .returned (.tuple #[.int .i64 L.length, .bool true]) ∧ w' = W.setCell ⟨p, 0, none⟩ (.slice (some ⟨g, o, none⟩) (L.length + n) c))) := fun W hW => by
      have := HT.out W hW
      rw [decide_eq_true hr] at this
      exact this
    obtain ⟨b, hb⟩ : ∃ b, ((L.length : Int) == 0) = b := ⟨_, rfl⟩
    have c1 := h.c1
    clear HT h hB hr hlc hc
    generalize L.length = l at *
    cases b
    all_goals
      go_enter Tryd.func63, Tryd.ntmps63
      go_wp2_with fail
      refine (HL.out _ H.out).mono ?_
      rintro e w1 ⟨rfl, k, rfl⟩
      have c1' := (H.out.drewN k).c1
      go_wp2_with fail
      refine (HT2.out _ (H.out.drewN k)).mono ?_
      rintro e w2 ⟨rfl, rfl⟩
      go_wp2
      go_ret
      exact hfin.out k
  · have hn1 : 1 ≤ n := by omega
    have hcells : BytesAt w g o L := by
      rcases hB with ⟨e, _⟩ | ⟨g', o', cap, cur, fz, e, _, hh, _, _, _, _, hcl⟩
      · cases e
      · cases e
        exact fun j hj => by rw [cell_of_row w g (o + j) cur _ fz hh]; exact hcl j hj
    have HG : Hid (∀ k, Calls Tryd.prog 81 #[.slice (some ⟨g, o, none⟩) L.length c, .int .i64 n] (w.drewN k) (GrowPost L n (w.drewN k))) := fun k => growSlice g o c n L (w.drewN k) (fun j hj => hcells j hj) hn1 (by omega) hlc (by omega)
    have HT2 : Hid (∀ W, BHead W p (.slice (some ⟨g, o, none⟩) L.length c) → Calls Tryd.prog 64 #[.pointer (some ⟨p, 0, none⟩), .int .i64 n] W (fun e w' => e = .returned (.tuple #[.int .i64 0, .bool false]) ∧ w' = W)) := fun W hW => by
      have := HT.out W hW
      rw [decide_eq_false hr] at this
      exact this
    have hfin : Hid (∀ W c2, BHead W p (.slice (some ⟨g, o, none⟩) L.length c) → Below w.heap.size w W → L.length + n ≤ c2 → Buf W w.heap.size none (.slice (some ⟨w.heap.size, 0, none⟩) L.length c2) L →
        GrewPost p g o c n (L.length + n) L w (.returned (.int .i64 L.length)) (((W.setCell ⟨p, 0, none⟩ (.slice (some ⟨w.heap.size, 0, none⟩) L.length c2)).setCell ⟨p, 1, none⟩ (.int .i64 0)).setCell ⟨p, 0, none⟩ (.slice (some ⟨w.heap.size, 0, none⟩) (L.length + n) c2))) := fun W c2 a b d f => by
      have hne : w.heap.size ≠ p := by have := h.lt; omega
      refine ⟨w.heap.size, 0, c2, rfl, ((a.set _).set1).set _, ?_, d, hne, ?_, .inr (Nat.le_refl _)⟩
      · have f0 : Buf W 0 none (.slice (some ⟨w.heap.size, 0, none⟩) L.length c2) L := by
          rcases f with ⟨e, _⟩ | ⟨g', o', cap, cur, fz, e, _, rest⟩
          · cases e
          · exact .inr ⟨g', o', cap, cur, fz, e, .inl (Nat.zero_le _), rest⟩
        exact ((f0.setP hne _).setP hne _).setP hne _
      · exact (((Gp.of_below (p := p) b).set _ _).set _ _).set _ _
    have hc3 : (c : Int) < (L.length : Int) + (n : Int) := by omega
    have hL3 : (L.length : Int) ≤ 100000000 := by omega
    have hn3 : (n : Int) ≤ 100000000 := by omega
    have hlc3 : (L.length : Int) ≤ (c : Int) := by omega
    have hz : Hid (∀ k : Nat, (w.drewN k).heap.size = w.heap.size) := fun k => by cases k <;> rfl
    obtain ⟨b, hb⟩ : ∃ b, ((L.length : Int) == 0) = b := ⟨_, rfl⟩
    have c1 := h.c1
    clear HT h hB hr hlc hc hcells hL hn hn1
    have HG2 : Hid (∀ W0, (∃ k, W0 = w.drewN k) → Calls Tryd.prog 81 #[.slice (some ⟨g, o, none⟩) L.length c, .int .i64 n] W0 (fun e W => ∃ c2, e = .returned (.slice (some ⟨w.heap.size, 0, none⟩) L.length c2) ∧ L.length + n ≤ c2 ∧ Buf W w.heap.size none (.slice (some ⟨w.heap.size, 0, none⟩) L.length c2) L ∧ BHead W p (.slice (some ⟨g, o, none⟩) L.length c) ∧ Below w.heap.size w W)) := fun W0 hW0 => by
      obtain ⟨k, rfl⟩ := hW0
      refine (HG.out k).mono ?_
      rintro e W ⟨c2, q1, q2, q3, q4⟩
      rw [hz.out k] at q1 q3 q4
      have q5 : Below w.heap.size w W := by
        cases k with
        | zero => exact q4
        | succ k => exact ⟨q4.os, q4.tape, q4.output, q4.size, q4.block⟩
      exact ⟨c2, q1, q2, q3, H.out.below q5, q5⟩
    clear HG
    generalize L.length = l at *
    have hnil : ∀ W, (binOp .eql 56 (.slice (some ⟨g, o, none⟩) l c) (.slice none 0 0)).run Tryd.prog W = .ok (.bool false) W := fun W => Lib.run_eql_slice_some_nil W _ _ _ Tryd.underlying56
    have hq2 : ¬ ((n : Int) ≤ (c : Int) / 2 - (l : Int)) := by omega
    have hq3 : ¬ ((n : Int) ≤ (c : Int).tdiv 2 - (l : Int)) := by rw [Int.tdiv_eq_ediv_of_nonneg (by omega)]; exact hq2
    have hq4 : ¬ (9223372036854775807 - (c : Int) - (n : Int) < (c : Int)) := by omega
    cases b
    all_goals
      go_enter Tryd.func63, Tryd.ntmps63
      go_wp2_with fail
      refine (HL.out _ H.out).mono ?_
      rintro e w1 ⟨rfl, k, rfl⟩
      have c0' := (H.out.drewN k).c0
      have c1' := (H.out.drewN k).c1
      go_wp2_with fail
      refine (HT2.out _ (H.out.drewN k)).mono ?_
      rintro e w2 ⟨rfl, rfl⟩
      have hwn : IntKind.i64.wrap (n : Int) = n := by rw [IntKind.wrap_i64]; omega
      have c0s := (H.out.drewN (k + 1)).c0
      have c1s := (H.out.drewN (k + 1)).c1
      go_wp2
      go_region_law (go_simp; go_at_call 81; refine (HG2.out _ ⟨_, rfl⟩).mono ?_; rintro e w2 ⟨c2, rfl, hc2, hb2, hh2, hbel⟩; have HF2 := Lib.hid (hfin.out w2 c2 hh2 hbel hc2 hb2); have d0 := hh2.c0; have d1 := hh2.c1; have d2 := hh2.fz; have hc5 : (l : Int) + (n : Int) ≤ (c2 : Int) := (by omega); clear hb2 hh2 hbel)
      all_goals (
        go_wp2
        go_ret
        exact HF2.out)
end Go.Proofs.YtklncgmfbflooaaDoor
