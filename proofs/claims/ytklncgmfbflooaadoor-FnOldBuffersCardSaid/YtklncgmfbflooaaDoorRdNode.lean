/- The reference's reader: what lies round a value that is read: the node in a block of its own, the rows of its names and of what is in it; what stays. -/
import Derived.Test.YtklncgmfbflooaaDoorRdGram
import Derived.Test.YtklncgmfbflooaaDoorClose
import Derived.Laws.OwnMore
import Derived.Deep.AppendLies
import Derived.Deep.RegionHeld3
import Derived.Deep.RegionLaw
namespace Go.Proofs.YtklncgmfbflooaaDoor
open Go.RowKit
/-- All below B stays, but blocks R and N. -/
structure Gr2 (B : Nat) (a b : World) (R N : Nat) : Prop where
  os : b.os = a.os
  tape : b.tape = a.tape
  output : b.output = a.output
  size : a.heap.size ≤ b.heap.size
  block : ∀ i, i < B → i ≠ R → i ≠ N → b.heap[i]? = a.heap[i]?
theorem Gr2.refl (B : Nat) (a : World) (R N : Nat) : Gr2 B a a R N := ⟨rfl, rfl, rfl, Nat.le_refl _, fun _ _ _ _ => rfl⟩
theorem Gr2.trans {B : Nat} {a b c : World} {R N : Nat} (h : Gr2 B a b R N) (k : Gr2 B b c R N) : Gr2 B a c R N :=
  ⟨k.os.trans h.os, k.tape.trans h.tape, k.output.trans h.output, Nat.le_trans h.size k.size, fun i hi h1 h2 => (k.block i hi h1 h2).trans (h.block i hi h1 h2)⟩
theorem Gr2.reader {B : Nat} {a b c : World} {R N : Nat} (h : Gr2 B a b R N) (hB : B ≤ b.heap.size) (k : b.grownBy c (some R)) : Gr2 B a c R N :=
  h.trans ⟨k.os, k.tape, k.output, k.size, fun i hi h1 _ => k.block i (Nat.lt_of_lt_of_le hi hB) (fun e => h1 (Option.some.inj e))⟩
theorem Gr2.row {B : Nat} {a b c : World} {R N : Nat} (h : Gr2 B a b R N) (hB : B ≤ b.heap.size) {row : Option Nat} (k : b.grownBy c row) (hr : ∀ g, row = some g → B ≤ g) : Gr2 B a c R N :=
  h.trans ⟨k.os, k.tape, k.output, k.size, fun i hi _ _ => k.block i (Nat.lt_of_lt_of_le hi hB) (fun e => by have := hr i e.symm; omega)⟩
theorem Gr2.set {B : Nat} {a b : World} {R N : Nat} (h : Gr2 B a b R N) {q : Addr} (v : Value) (hq : q.block = R ∨ q.block = N ∨ B ≤ q.block) : Gr2 B a (b.setCell q v) R N :=
  h.trans ⟨rfl, rfl, rfl, by simp [World.setCell], fun i hi h1 h2 => Below.heap_setCell _ _ _ _ (by omega)⟩
theorem Gr2.alloc {B : Nat} {a b : World} {R N : Nat} (h : Gr2 B a b R N) (hB : B ≤ b.heap.size) (o : Obj) : Gr2 B a (b.alloc o) R N :=
  h.trans ⟨rfl, rfl, rfl, by simp, fun i hi _ _ => by show (b.heap.push o)[i]? = _; rw [Array.getElem?_push, if_neg (by omega)]⟩
theorem Gr2.drewN {B : Nat} {a b : World} {R N : Nat} (h : Gr2 B a b R N) (n : Nat) : Gr2 B a (b.drewN n) R N := h.trans ⟨rfl, rfl, rfl, Nat.le_refl _, fun _ _ _ _ => rfl⟩
/-- A node in block N: its rows are its own, from B on, and apart; each holds at most m. -/
structure NodeAt (w : World) (N B m : Nat) : Prop where
  ex : ∃ (c : Int) (t : ByteArray) (vn vk : Value) (nn nk : Nat) (xs ys : List Value), w.cell? ⟨N, 0, none⟩ = some (.int .u8 c) ∧ w.cell? ⟨N, 1, none⟩ = some (.string t) ∧ w.cell? ⟨N, 2, none⟩ = some vn ∧ w.cell? ⟨N, 3, none⟩ = some vk ∧
    w.ownsRow B 9 1 vn nn xs ∧ w.ownsRow B 48 4 vk nk ys ∧ nn ≤ m ∧ nk ≤ m ∧ (∀ g, vn.ownBlock = some g → vk.ownBlock ≠ some g)
  fz : ∀ j, w.frozen? ⟨N, j, none⟩ = false
  lt : N < B
  le : B ≤ w.heap.size
theorem NodeAt.mono {w : World} {N B m m' : Nat} (h : NodeAt w N B m) (hm : m ≤ m') : NodeAt w N B m' := by
  obtain ⟨⟨c, t, vn, vk, nn, nk, xs, ys, h1, h2, h3, h4, h5, h6, h7, h8, h9⟩, f, l, e⟩ := h
  exact ⟨⟨c, t, vn, vk, nn, nk, xs, ys, h1, h2, h3, h4, h5, h6, by omega, by omega, h9⟩, f, l, e⟩
/-- It stays while its block and its rows stay. -/
theorem NodeAt.kept {w w' : World} {N B m R : Nat} (h : NodeAt w N B m) (hg : w.grownBy w' (some R)) (hR : R < B) (hne : ¬ N = R) : NodeAt w' N B m := by
  obtain ⟨⟨c, t, vn, vk, nn, nk, xs, ys, h1, h2, h3, h4, h5, h6, h7, h8, h9⟩, f, l, e⟩ := h
  have hb : ∀ j, w'.cell? ⟨N, j, none⟩ = w.cell? ⟨N, j, none⟩ := fun j => World.cell?_of_block (a := ⟨N, j, none⟩) (hg.block N (by omega) (fun q => hne (Option.some.inj q)))
  have hrow : ∀ {v : Value} {ty : TypeId} {z n : Nat} {us : List Value}, w.ownsRow B ty z v n us → v.ownBlock = none ∨ v.ownBlock ≠ some R := fun {v ty z n us} q => .inr fun q2 => by have := (q.lt R q2).1; omega
  exact ⟨⟨c, t, vn, vk, nn, nk, xs, ys, (hb 0).trans h1, (hb 1).trans h2, (hb 2).trans h3, (hb 3).trans h4, h5.kept hg (hrow h5), h6.kept hg (hrow h6), h7, h8, h9⟩,
    fun j => (World.frozen?_of_block (a := ⟨N, j, none⟩) (hg.block N (by omega) (fun q => hne (Option.some.inj q)))).trans (f j), l, Nat.le_trans e hg.size⟩
/-- Its kind or its text is written. -/
theorem NodeAt.setKind {w : World} {N B m : Nat} (h : NodeAt w N B m) (c' : Int) : NodeAt (w.setCell ⟨N, 0, none⟩ (.int .u8 c')) N B m := by
  obtain ⟨⟨c, t, vn, vk, nn, nk, xs, ys, h1, h2, h3, h4, h5, h6, h7, h8, h9⟩, f, l, e⟩ := h
  exact ⟨⟨c', t, vn, vk, nn, nk, xs, ys, World.cell?_setCell_same _ _ _ h1, (World.cell?_setCell_other _ _ _ _ (by simp)).trans h2, (World.cell?_setCell_other _ _ _ _ (by simp)).trans h3, (World.cell?_setCell_other _ _ _ _ (by simp)).trans h4, ownsRow_setCell_below h5 l _, ownsRow_setCell_below h6 l _, h7, h8, h9⟩,
    fun j => by rw [World.frozen?_setCell]; exact f j, l, by simpa [World.setCell] using e⟩
theorem NodeAt.setText {w : World} {N B m : Nat} (h : NodeAt w N B m) (t' : ByteArray) : NodeAt (w.setCell ⟨N, 1, none⟩ (.string t')) N B m := by
  obtain ⟨⟨c, t, vn, vk, nn, nk, xs, ys, h1, h2, h3, h4, h5, h6, h7, h8, h9⟩, f, l, e⟩ := h
  exact ⟨⟨c, t', vn, vk, nn, nk, xs, ys, (World.cell?_setCell_other _ _ _ _ (by simp)).trans h1, World.cell?_setCell_same _ _ _ h2, (World.cell?_setCell_other _ _ _ _ (by simp)).trans h3, (World.cell?_setCell_other _ _ _ _ (by simp)).trans h4, ownsRow_setCell_below h5 l _, ownsRow_setCell_below h6 l _, h7, h8, h9⟩,
    fun j => by rw [World.frozen?_setCell]; exact f j, l, by simpa [World.setCell] using e⟩
theorem NodeAt.drewN {w : World} {N B m : Nat} (h : NodeAt w N B m) (n : Nat) : NodeAt (w.drewN n) N B m := ⟨h.ex, h.fz, h.lt, h.le⟩
/-- A slice's value in one cell. -/
def SliceV (v : Value) : Prop := ∃ p n c, v = .slice p n c
theorem ownsRow_sliceV {w : World} {B : Nat} {ty : TypeId} {z : Nat} {v : Value} {n : Nat} {us : List Value} (h : w.ownsRow B ty z v n us) : SliceV v := by
  rcases h.2 with ⟨h1, _⟩ | ⟨g, cap, cur, h1, _⟩
  · exact ⟨_, _, _, h1⟩
  · exact ⟨_, _, _, h1⟩
/-- What reading with a node leaves: it went on to n, or it failed; the node is one still. -/
def RdN (ok : Prop) (n R N B : Nat) (s : ByteArray) (k : Nat) (f : Int) (op : Bool) (w : World) (e : Ending) (w' : World) : Prop :=
  ((ok ∧ e = .returned (.bool true) ∧ RdAt w' R s n true true f op ∧ NodeAt w' N B n) ∨
   (¬ ok ∧ e = .returned (.bool false) ∧ ∃ k' f', k ≤ k' ∧ k' ≤ s.size ∧ ¬ f' = 0 ∧ RdAt w' R s k' true true f' op ∧ NodeAt w' N B (s.size + 1))) ∧ Gr2 B w w' R N
theorem nodeInfo : (Tryd.prog.info? 48).map (fun i => (i.zero, i.size, i.bytes)) = some (some (.agg #[.int .u8 0, .string ByteArray.empty, .slice none 0 0, .slice none 0 0]), 4, 72) := by kernel_rfl
theorem strInfo : (Tryd.prog.info? 9).map (fun i => (i.zero, i.size, i.bytes)) = some (some (.string ByteArray.empty), 1, 16) := by kernel_rfl
/-- What reading a value leaves. -/
def VP (p : Nat) (R : Nat) (s : ByteArray) (k : Nat) (f : Int) (op : Bool) (w : World) (e : Ending) (w' : World) : Prop :=
  ∃ (c : Int) (t : ByteArray) (p1 : Option Addr) (l1 q1 : Nat) (p2 : Option Addr) (l2 q2 : Nat),
    ((¬ p = 0 ∧ e = .returned (.tuple #[.agg #[.int .u8 c, .string t, .slice p1 l1 q1, .slice p2 l2 q2], .bool true]) ∧ RdAt w' R s p true true f op) ∨
     (p = 0 ∧ e = .returned (.tuple #[.agg #[.int .u8 c, .string t, .slice p1 l1 q1, .slice p2 l2 q2], .bool false]) ∧ ∃ k' f', k ≤ k' ∧ k' ≤ s.size ∧ ¬ f' = 0 ∧ RdAt w' R s k' true true f' op)) ∧ w.grownBy w' (some R)
theorem ownsRow_form {w : World} {B : Nat} {ty : TypeId} {z : Nat} {v : Value} {n : Nat} {us : List Value} (h : w.ownsRow B ty z v n us) : ∃ p c, v = .slice p n c := by
  rcases h.2 with ⟨h1, h2⟩ | ⟨g, cap, cur, h1, _⟩
  · exact ⟨_, _, by rw [h1, h2]⟩
  · exact ⟨_, _, h1⟩
theorem own_set {w : World} {B : Nat} {ty : TypeId} {z : Nat} {v : Value} {n : Nat} {us : List Value} (h : w.ownsRow B ty z v n us) (g j : Nat) (u : Value) : ∃ us', (w.setCell ⟨g, j, none⟩ u).ownsRow B ty z v n us' := by
  by_cases e : v.ownBlock = some g
  · rcases h.2 with ⟨h1, h2⟩ | ⟨g', cap, cur, h1, _⟩
    · subst h1; cases e
    · subst h1
      obtain rfl : g' = g := Option.some.inj e
      exact ⟨_, (h.stored j u).1⟩
  · exact ⟨us, ownsRow_setCell_other h e u⟩
theorem RdAt.far {w : World} {R : Nat} {s : ByteArray} {k : Nat} {tw lo : Bool} {f : Int} {op : Bool} (h : RdAt w R s k tw lo f op) (q : Addr) (hq : ¬ q.block = R) (v : Value) : RdAt (w.setCell q v) R s k tw lo f op := by
  have hb : ∀ j, (w.setCell q v).cell? ⟨R, j, none⟩ = w.cell? ⟨R, j, none⟩ := fun j => World.cell?_of_block (a := ⟨R, j, none⟩) (Below.heap_setCell _ _ _ _ (fun e => hq e.symm))
  exact ⟨(hb 0).trans h.c0, (hb 1).trans h.c1, (hb 2).trans h.c2, (hb 3).trans h.c3, (hb 4).trans h.c4, (hb 5).trans h.c5, fun j => by rw [World.frozen?_setCell]; exact h.fz j, by simpa [World.setCell] using h.lt⟩
theorem RdAt.grew {w w' : World} {R : Nat} {s : ByteArray} {k : Nat} {tw lo : Bool} {f : Int} {op : Bool} (h : RdAt w R s k tw lo f op) {row : Option Nat} (hg : w.grownBy w' row) (hr : row ≠ some R) : RdAt w' R s k tw lo f op := by
  have e := hg.block R h.lt (fun e => hr e.symm)
  exact ⟨(World.cell?_of_block (a := ⟨R, 0, none⟩) e).trans h.c0, (World.cell?_of_block (a := ⟨R, 1, none⟩) e).trans h.c1, (World.cell?_of_block (a := ⟨R, 2, none⟩) e).trans h.c2, (World.cell?_of_block (a := ⟨R, 3, none⟩) e).trans h.c3, (World.cell?_of_block (a := ⟨R, 4, none⟩) e).trans h.c4, (World.cell?_of_block (a := ⟨R, 5, none⟩) e).trans h.c5, fun j => (World.frozen?_of_block (a := ⟨R, j, none⟩) e).trans (h.fz j), Nat.lt_of_lt_of_le h.lt hg.size⟩
theorem RdAt.alloc {w : World} {R : Nat} {s : ByteArray} {k : Nat} {tw lo : Bool} {f : Int} {op : Bool} (h : RdAt w R s k tw lo f op) (o : Obj) : RdAt (w.alloc o) R s k tw lo f op := h.grew (World.grownBy_alloc w o none) (by simp)
/-- A node whose row of kids is about to be the one of nv. -/
structure Pend (w : World) (N B m : Nat) (nv : Value) : Prop where
  ex : ∃ (c : Int) (t : ByteArray) (vn vk : Value) (nn nk : Nat) (xs ys : List Value), w.cell? ⟨N, 0, none⟩ = some (.int .u8 c) ∧ w.cell? ⟨N, 1, none⟩ = some (.string t) ∧ w.cell? ⟨N, 2, none⟩ = some vn ∧ w.cell? ⟨N, 3, none⟩ = some vk ∧
    w.ownsRow B 9 1 vn nn xs ∧ w.ownsRow B 48 4 nv nk ys ∧ nn ≤ m ∧ nk ≤ m ∧ (∀ g, vn.ownBlock = some g → nv.ownBlock ≠ some g)
  fz : ∀ j, w.frozen? ⟨N, j, none⟩ = false
  lt : N < B
  le : B ≤ w.heap.size
theorem Pend.row {w : World} {N B m : Nat} {nv : Value} (h : Pend w N B m nv) {g : Nat} (hg : B ≤ g) (j : Nat) (u : Value) : Pend (w.setCell ⟨g, j, none⟩ u) N B m nv := by
  obtain ⟨⟨c, t, vn, vk, nn, nk, xs, ys, h1, h2, h3, h4, h5, h6, h7, h8, h9⟩, f, l, e⟩ := h
  have hb : ∀ i, (w.setCell ⟨g, j, none⟩ u).cell? ⟨N, i, none⟩ = w.cell? ⟨N, i, none⟩ := fun i => World.cell?_of_block (a := ⟨N, i, none⟩) (Below.heap_setCell _ _ _ _ (by show N ≠ g; omega))
  obtain ⟨xs', h5'⟩ := own_set h5 g j u
  obtain ⟨ys', h6'⟩ := own_set h6 g j u
  exact ⟨⟨c, t, vn, vk, nn, nk, xs', ys', (hb 0).trans h1, (hb 1).trans h2, (hb 2).trans h3, (hb 3).trans h4, h5', h6', h7, h8, h9⟩, fun i => by rw [World.frozen?_setCell]; exact f i, l, by simpa [World.setCell] using e⟩
theorem Pend.store {w : World} {N B m : Nat} {nv : Value} (h : Pend w N B m nv) : NodeAt (w.setCell ⟨N, 3, none⟩ nv) N B m := by
  obtain ⟨⟨c, t, vn, vk, nn, nk, xs, ys, h1, h2, h3, h4, h5, h6, h7, h8, h9⟩, f, l, e⟩ := h
  exact ⟨⟨c, t, vn, nv, nn, nk, xs, ys, (World.cell?_setCell_other _ _ _ _ (by simp)).trans h1, (World.cell?_setCell_other _ _ _ _ (by simp)).trans h2, (World.cell?_setCell_other _ _ _ _ (by simp)).trans h3, World.cell?_setCell_same _ _ _ h4, ownsRow_setCell_below h5 l _, ownsRow_setCell_below h6 l _, h7, h8, h9⟩,
    fun i => by rw [World.frozen?_setCell]; exact f i, l, by simpa [World.setCell] using e⟩
theorem NodeAt.row {w : World} {N B m : Nat} (h : NodeAt w N B m) {g : Nat} (hg : B ≤ g) (j : Nat) (u : Value) : NodeAt (w.setCell ⟨g, j, none⟩ u) N B m := by
  obtain ⟨⟨c, t, vn, vk, nn, nk, xs, ys, h1, h2, h3, h4, h5, h6, h7, h8, h9⟩, f, l, e⟩ := h
  have hb : ∀ i, (w.setCell ⟨g, j, none⟩ u).cell? ⟨N, i, none⟩ = w.cell? ⟨N, i, none⟩ := fun i => World.cell?_of_block (a := ⟨N, i, none⟩) (Below.heap_setCell _ _ _ _ (by show N ≠ g; omega))
  obtain ⟨xs', h5'⟩ := own_set h5 g j u
  obtain ⟨ys', h6'⟩ := own_set h6 g j u
  exact ⟨⟨c, t, vn, vk, nn, nk, xs', ys', (hb 0).trans h1, (hb 1).trans h2, (hb 2).trans h3, (hb 3).trans h4, h5', h6', h7, h8, h9⟩, fun i => by rw [World.frozen?_setCell]; exact f i, l, by simpa [World.setCell] using e⟩
theorem NodeAt.alloc {w : World} {N B m : Nat} (h : NodeAt w N B m) (o : Obj) : NodeAt (w.alloc o) N B m := by
  obtain ⟨⟨c, t, vn, vk, nn, nk, xs, ys, h1, h2, h3, h4, h5, h6, h7, h8, h9⟩, f, l, e⟩ := h
  have hg := World.grownBy_alloc w o none
  have hb : ∀ j, (w.alloc o).cell? ⟨N, j, none⟩ = w.cell? ⟨N, j, none⟩ := fun j => World.cell?_of_block (a := ⟨N, j, none⟩) (hg.block N (by omega) (by simp))
  exact ⟨⟨c, t, vn, vk, nn, nk, xs, ys, (hb 0).trans h1, (hb 1).trans h2, (hb 2).trans h3, (hb 3).trans h4, h5.alloc o, h6.alloc o, h7, h8, h9⟩,
    fun j => (World.frozen?_of_block (a := ⟨N, j, none⟩) (hg.block N (by omega) (by simp))).trans (f j), l, Nat.le_trans e hg.size⟩
/-- The four cells of the row's new element. -/
theorem node_slot {w : World} {B g n cap : Nat} {ys : List Value} {z0 z1 z2 z3 : Value} (h : w.ownsRow B 48 4 (.slice (some ⟨g, 0, none⟩) (n + 1) cap) (n + 1) (ys ++ [z0, z1, z2, z3])) (hl : ys.length = n * 4) :
    (w.cell? ⟨g, n * 4, none⟩ = some z0 ∧ w.cell? ⟨g, n * 4 + 1, none⟩ = some z1 ∧ w.cell? ⟨g, n * 4 + 2, none⟩ = some z2 ∧ w.cell? ⟨g, n * 4 + 3, none⟩ = some z3) ∧ ∀ j, w.frozen? ⟨g, j, none⟩ = false := by
  refine ⟨⟨?_, ?_, ?_, ?_⟩, fun j => h.frozenAt j⟩
  all_goals
    rw [h.cellAt _ (by omega), List.getElem?_append_right (by omega)]
    simp [hl]
theorem pend_of {wb w5 : World} {N B m g cap : Nat} {c : Int} {t : ByteArray} {vn vk : Value} {nn nk : Nat} {xs ys ys' : List Value} (h1 : wb.cell? ⟨N, 0, none⟩ = some (.int .u8 c)) (h2 : wb.cell? ⟨N, 1, none⟩ = some (.string t)) (h3 : wb.cell? ⟨N, 2, none⟩ = some vn) (h4 : wb.cell? ⟨N, 3, none⟩ = some vk)
    (on : wb.ownsRow B 9 1 vn nn xs) (ok : wb.ownsRow B 48 4 vk nk ys) (hg : wb.grownBy w5 vk.ownBlock) (o5 : w5.ownsRow B 48 4 (.slice (some ⟨g, 0, none⟩) (nk + 1) cap) (nk + 1) ys')
    (hn : nn ≤ m) (hk : nk + 1 ≤ m) (ap : ∀ g, vn.ownBlock = some g → vk.ownBlock ≠ some g) (hat : vk.ownBlock = some g ∨ wb.heap.size ≤ g) (fz : ∀ j, wb.frozen? ⟨N, j, none⟩ = false) (lt : N < B) (le : B ≤ wb.heap.size) : Pend w5 N B m (.slice (some ⟨g, 0, none⟩) (nk + 1) cap) := by
  have hb : w5.heap[N]? = wb.heap[N]? := hg.block N (by omega) (fun e => by have := (ok.lt N e.symm).1; omega)
  refine ⟨⟨c, t, vn, vk, nn, nk + 1, xs, ys', (World.cell?_of_block (a := ⟨N, 0, none⟩) hb).trans h1, (World.cell?_of_block (a := ⟨N, 1, none⟩) hb).trans h2, (World.cell?_of_block (a := ⟨N, 2, none⟩) hb).trans h3, (World.cell?_of_block (a := ⟨N, 3, none⟩) hb).trans h4, on.kept hg ?_, o5, hn, hk, fun q hq e => ?_⟩,
    fun j => (World.frozen?_of_block (a := ⟨N, j, none⟩) hb).trans (fz j), lt, Nat.le_trans le hg.size⟩
  · rcases e : vn.ownBlock with _ | q
    · exact .inl rfl
    · exact .inr (fun z => ap q e z.symm)
  · have e' : g = q := by simpa [Value.ownBlock] using e
    subst e'
    rcases hat with z | z
    · exact ap g hq z
    · have := (on.lt g hq).2; omega
theorem grow_trans {a b c : World} {row : Option Nat} (h : a.grownBy b row) (k : b.grownBy c row) : a.grownBy c row :=
  ⟨k.os.trans h.os, k.tape.trans h.tape, k.output.trans h.output, Nat.le_trans h.size k.size, fun i hi hne => (k.block i (Nat.lt_of_lt_of_le hi h.size) hne).trans (h.block i hi hne)⟩
theorem grow_drew (w : World) (o : Obj) (row : Option Nat) : w.grownBy (w.drew.alloc o) row := by
  have := World.grownBy_alloc w.drew o row
  exact ⟨this.os, this.tape, this.output, this.size, this.block⟩
/-- The reader's own cell is written. -/
theorem NodeAt.reader {w : World} {N B m R : Nat} (h : NodeAt w N B m) (hR : R < B) (hne : ¬ N = R) (j : Nat) (u : Value) : NodeAt (w.setCell ⟨R, j, none⟩ u) N B m :=
  h.kept (grown_set (grown_refl w R) j u) hR hne
/-- A name is put behind the names. -/
theorem names_of {wb w5 : World} {N B m g cap : Nat} {c : Int} {t : ByteArray} {vn vk : Value} {nn nk : Nat} {xs ys xs' : List Value} (h1 : wb.cell? ⟨N, 0, none⟩ = some (.int .u8 c)) (h2 : wb.cell? ⟨N, 1, none⟩ = some (.string t)) (h3 : wb.cell? ⟨N, 2, none⟩ = some vn) (h4 : wb.cell? ⟨N, 3, none⟩ = some vk)
    (on : wb.ownsRow B 9 1 vn nn xs) (ok : wb.ownsRow B 48 4 vk nk ys) (hg : wb.grownBy w5 vn.ownBlock) (o5 : w5.ownsRow B 9 1 (.slice (some ⟨g, 0, none⟩) (nn + 1) cap) (nn + 1) xs')
    (hn : nn + 1 ≤ m) (hk : nk ≤ m) (ap : ∀ g, vn.ownBlock = some g → vk.ownBlock ≠ some g) (hat : vn.ownBlock = some g ∨ wb.heap.size ≤ g) (fz : ∀ j, wb.frozen? ⟨N, j, none⟩ = false) (lt : N < B) (le : B ≤ wb.heap.size) : NodeAt (w5.setCell ⟨N, 2, none⟩ (.slice (some ⟨g, 0, none⟩) (nn + 1) cap)) N B m := by
  have hb : w5.heap[N]? = wb.heap[N]? := hg.block N (by omega) (fun e => by have := (on.lt N e.symm).1; omega)
  have hv : vk.ownBlock = none ∨ vk.ownBlock ≠ vn.ownBlock := by
    rcases e : vk.ownBlock with _ | q
    · exact .inl rfl
    · exact .inr (fun z => ap q z.symm e)
  refine ⟨⟨c, t, .slice (some ⟨g, 0, none⟩) (nn + 1) cap, vk, nn + 1, nk, xs', ys, (World.cell?_setCell_other _ _ _ _ (by simp)).trans ((World.cell?_of_block (a := ⟨N, 0, none⟩) hb).trans h1), (World.cell?_setCell_other _ _ _ _ (by simp)).trans ((World.cell?_of_block (a := ⟨N, 1, none⟩) hb).trans h2), World.cell?_setCell_same _ _ _ ((World.cell?_of_block (a := ⟨N, 2, none⟩) hb).trans h3), (World.cell?_setCell_other _ _ _ _ (by simp)).trans ((World.cell?_of_block (a := ⟨N, 3, none⟩) hb).trans h4), ownsRow_setCell_below o5 lt _, ownsRow_setCell_below (ok.kept hg hv) lt _, hn, hk, fun q hq e => ?_⟩,
    fun j => by rw [World.frozen?_setCell]; exact (World.frozen?_of_block (a := ⟨N, j, none⟩) hb).trans (fz j), lt, by simpa [World.setCell] using Nat.le_trans le hg.size⟩
  have e' : g = q := by simpa [Value.ownBlock] using hq
  subst e'
  rcases hat with z | z
  · exact ap g z e
  · have := (ok.lt g e).2; omega
theorem RdAt.drew {w : World} {R : Nat} {s : ByteArray} {k : Nat} {tw lo : Bool} {f : Int} {op : Bool} (h : RdAt w R s k tw lo f op) : RdAt w.drew R s k tw lo f op := ⟨h.c0, h.c1, h.c2, h.c3, h.c4, h.c5, h.fz, h.lt⟩
theorem NodeAt.drew {w : World} {N B m : Nat} (h : NodeAt w N B m) : NodeAt w.drew N B m := ⟨h.ex, h.fz, h.lt, h.le⟩
theorem Gr2.drew {B : Nat} {a b : World} {R N : Nat} (h : Gr2 B a b R N) : Gr2 B a b.drew R N := ⟨h.os, h.tape, h.output, h.size, h.block⟩
end Go.Proofs.YtklncgmfbflooaaDoor
