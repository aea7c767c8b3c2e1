/- The old scanner in memory beside a block that is another one's: its error, walked. -/
import Derived.Test.YtklncgmfbflooaaDoorScanAt
namespace Go.Proofs.YtklncgmfbflooaaDoor
/-- The block that stays. -/
class Keep where
  D : Nat
end Go.Proofs.YtklncgmfbflooaaDoor
namespace Go.Proofs.YtklncgmfbflooaaDoor.Kp
open Go.RowKit
variable [K : Keep]
/-- All below B stays, but blocks R and N; and the block that is to stay. -/
structure Gr2 (B : Nat) (a b : World) (R N : Nat) : Prop where
  g : Go.Proofs.YtklncgmfbflooaaDoor.Gr2 B a b R N
  d : K.D ≠ R → K.D ≠ N → K.D < a.heap.size → b.heap[K.D]? = a.heap[K.D]?
theorem Gr2.os {B : Nat} {a b : World} {R N : Nat} (h : Gr2 B a b R N) : b.os = a.os := h.g.os
theorem Gr2.tape {B : Nat} {a b : World} {R N : Nat} (h : Gr2 B a b R N) : b.tape = a.tape := h.g.tape
theorem Gr2.output {B : Nat} {a b : World} {R N : Nat} (h : Gr2 B a b R N) : b.output = a.output := h.g.output
theorem Gr2.size {B : Nat} {a b : World} {R N : Nat} (h : Gr2 B a b R N) : a.heap.size ≤ b.heap.size := h.g.size
theorem Gr2.refl (B : Nat) (a : World) (R N : Nat) : Gr2 B a a R N := ⟨Go.Proofs.YtklncgmfbflooaaDoor.Gr2.refl B a R N, fun _ _ _ => rfl⟩
theorem Gr2.trans {B : Nat} {a b c : World} {R N : Nat} (h : Gr2 B a b R N) (k : Gr2 B b c R N) : Gr2 B a c R N :=
  ⟨h.g.trans k.g, fun x y z => (k.d x y (Nat.lt_of_lt_of_le z h.g.size)).trans (h.d x y z)⟩
theorem Gr2.row {B : Nat} {a b : World} {R N : Nat} (hB : B ≤ a.heap.size) {row : Option Nat} (k : a.grownBy b row) (hr : ∀ g, row = some g → B ≤ g) (hd : row ≠ some K.D) : Gr2 B a b R N :=
  ⟨(Go.Proofs.YtklncgmfbflooaaDoor.Gr2.refl B a R N).row hB k hr, fun _ _ z => k.block K.D z (fun e => hd e.symm)⟩
theorem Gr2.set {B : Nat} {a b : World} {R N : Nat} (h : Gr2 B a b R N) {q : Addr} (v : Value) (hq : q.block = R ∨ q.block = N ∨ (B ≤ q.block ∧ K.D ≠ q.block)) : Gr2 B a (b.setCell q v) R N :=
  ⟨h.g.set v (by rcases hq with x | x | x; exact .inl x; exact .inr (.inl x); exact .inr (.inr x.1)), fun x y z => (Below.heap_setCell _ _ _ _ (by rcases hq with e | e | e; rw [e]; exact x; rw [e]; exact y; exact e.2)).trans (h.d x y z)⟩
theorem Gr2.alloc {B : Nat} {a b : World} {R N : Nat} (h : Gr2 B a b R N) (hB : B ≤ b.heap.size) (o : Obj) : Gr2 B a (b.alloc o) R N :=
  ⟨h.g.alloc hB o, fun x y z => by
    have hs := h.g.size
    rw [← h.d x y z]
    show (b.heap.push o)[K.D]? = _
    rw [Array.getElem?_push, if_neg (by omega)]⟩
theorem Gr2.drew {B : Nat} {a b : World} {R N : Nat} (h : Gr2 B a b R N) : Gr2 B a b.drew R N := ⟨h.g.drew, h.d⟩
theorem Gr2.drewN {B : Nat} {a b : World} {R N : Nat} (h : Gr2 B a b R N) (n : Nat) : Gr2 B a (b.drewN n) R N := ⟨h.g.drewN n, h.d⟩
/-- A scanner in block S; its stack's row lies from B on. -/
structure ScAt (w : World) (S B : Nat) (s : Cfg) : Prop where
  c0 : w.cell? ⟨S, 0, none⟩ = some (.func (.func (fid s.q)) #[] #[])
  c1 : w.cell? ⟨S, 1, none⟩ = some (.bool s.top)
  c2 : ∃ v, w.cell? ⟨S, 2, none⟩ = some v ∧ w.ownsRow B 3 1 v s.st.length (stackC s.st)
  c3 : ∃ v, w.cell? ⟨S, 3, none⟩ = some v ∧ (s.er = false → v = .nilIface) ∧ (s.er = true → ∃ p, v = .iface 94 (.pointer (some ⟨p, 0, none⟩)) ∧ B ≤ p ∧ SynAt w p)
  c4 : ∃ n, w.cell? ⟨S, 4, none⟩ = some (.int .i64 n)
  fz : ∀ j, w.frozen? ⟨S, j, none⟩ = false
  lt : S < B
  le : B ≤ w.heap.size
  dr : ∀ v, w.cell? ⟨S, 2, none⟩ = some v → v.ownBlock ≠ some K.D
  dl : K.D < w.heap.size
  ds : K.D ≠ S
theorem ScAt.drew {w : World} {S B : Nat} {s : Cfg} (h : ScAt w S B s) : ScAt w.drew S B s := ⟨h.c0, h.c1, h.c2, h.c3, h.c4, h.fz, h.lt, h.le, h.dr, h.dl, h.ds⟩
theorem ScAt.setQ {w : World} {S B : Nat} {s : Cfg} (h : ScAt w S B s) (q : Q) : ScAt (w.setCell ⟨S, 0, none⟩ (.func (.func (fid q)) #[] #[])) S B (s.to q) := by
  obtain ⟨v, h2, o2⟩ := h.c2
  obtain ⟨x, h3, e1, e2⟩ := h.c3
  obtain ⟨n, h4⟩ := h.c4
  exact ⟨World.cell?_setCell_same _ _ _ h.c0, (World.cell?_setCell_other _ _ _ _ (by simp)).trans h.c1, ⟨v, (World.cell?_setCell_other _ _ _ _ (by simp)).trans h2, ownsRow_setCell_below o2 h.lt _⟩, ⟨x, (World.cell?_setCell_other _ _ _ _ (by simp)).trans h3, e1, syn_kept e2 (syn_set h.lt _ _)⟩, ⟨n, (World.cell?_setCell_other _ _ _ _ (by simp)).trans h4⟩, fun j => by rw [World.frozen?_setCell]; exact h.fz j, h.lt, by simpa [World.setCell] using h.le, fun u hu => h.dr u ((World.cell?_setCell_other _ _ _ _ (by simp)).symm.trans hu), by simpa [World.setCell] using h.dl, h.ds⟩
theorem ScAt.setTop {w : World} {S B : Nat} {s : Cfg} (h : ScAt w S B s) (b : Bool) : ScAt (w.setCell ⟨S, 1, none⟩ (.bool b)) S B { s with top := b } := by
  obtain ⟨v, h2, o2⟩ := h.c2
  obtain ⟨x, h3, e1, e2⟩ := h.c3
  obtain ⟨n, h4⟩ := h.c4
  exact ⟨(World.cell?_setCell_other _ _ _ _ (by simp)).trans h.c0, World.cell?_setCell_same _ _ _ h.c1, ⟨v, (World.cell?_setCell_other _ _ _ _ (by simp)).trans h2, ownsRow_setCell_below o2 h.lt _⟩, ⟨x, (World.cell?_setCell_other _ _ _ _ (by simp)).trans h3, e1, syn_kept e2 (syn_set h.lt _ _)⟩, ⟨n, (World.cell?_setCell_other _ _ _ _ (by simp)).trans h4⟩, fun j => by rw [World.frozen?_setCell]; exact h.fz j, h.lt, by simpa [World.setCell] using h.le, fun u hu => h.dr u ((World.cell?_setCell_other _ _ _ _ (by simp)).symm.trans hu), by simpa [World.setCell] using h.dl, h.ds⟩
theorem ScAt.setN {w : World} {S B : Nat} {s : Cfg} (h : ScAt w S B s) (k : Int) : ScAt (w.setCell ⟨S, 4, none⟩ (.int .i64 k)) S B s := by
  obtain ⟨v, h2, o2⟩ := h.c2
  obtain ⟨x, h3, e1, e2⟩ := h.c3
  obtain ⟨n, h4⟩ := h.c4
  exact ⟨(World.cell?_setCell_other _ _ _ _ (by simp)).trans h.c0, (World.cell?_setCell_other _ _ _ _ (by simp)).trans h.c1, ⟨v, (World.cell?_setCell_other _ _ _ _ (by simp)).trans h2, ownsRow_setCell_below o2 h.lt _⟩, ⟨x, (World.cell?_setCell_other _ _ _ _ (by simp)).trans h3, e1, syn_kept e2 (syn_set h.lt _ _)⟩, ⟨k, World.cell?_setCell_same _ _ _ h4⟩, fun j => by rw [World.frozen?_setCell]; exact h.fz j, h.lt, by simpa [World.setCell] using h.le, fun u hu => h.dr u ((World.cell?_setCell_other _ _ _ _ (by simp)).symm.trans hu), by simpa [World.setCell] using h.dl, h.ds⟩
theorem ScAt.setErr {w : World} {S B : Nat} {s : Cfg} (h : ScAt w S B s) (p : Nat) (hp : B ≤ p) (hs : SynAt w p) : ScAt (w.setCell ⟨S, 3, none⟩ (.iface 94 (.pointer (some ⟨p, 0, none⟩)))) S B { s with er := true } := by
  obtain ⟨v, h2, o2⟩ := h.c2
  obtain ⟨x, h3, e1, e2⟩ := h.c3
  obtain ⟨n, h4⟩ := h.c4
  exact ⟨(World.cell?_setCell_other _ _ _ _ (by simp)).trans h.c0, (World.cell?_setCell_other _ _ _ _ (by simp)).trans h.c1, ⟨v, (World.cell?_setCell_other _ _ _ _ (by simp)).trans h2, ownsRow_setCell_below o2 h.lt _⟩, ⟨_, World.cell?_setCell_same _ _ _ h3, (fun q => by cases q), fun _ => ⟨p, rfl, hp, hs.same (syn_set h.lt _ _ p hp hs)⟩⟩, ⟨n, (World.cell?_setCell_other _ _ _ _ (by simp)).trans h4⟩, fun j => by rw [World.frozen?_setCell]; exact h.fz j, h.lt, by simpa [World.setCell] using h.le, fun u hu => h.dr u ((World.cell?_setCell_other _ _ _ _ (by simp)).symm.trans hu), by simpa [World.setCell] using h.dl, h.ds⟩
/-- It stays while its block and its row stay. -/
theorem ScAt.grew {w w' : World} {S B : Nat} {s : Cfg} (h : ScAt w S B s) (hg : w.grownBy w' none) : ScAt w' S B s := by
  obtain ⟨v, h2, o2⟩ := h.c2
  obtain ⟨x, h3, e1, e2⟩ := h.c3
  obtain ⟨n, h4⟩ := h.c4
  have hb := hg.block S (Nat.lt_of_lt_of_le h.lt h.le) (by simp)
  exact ⟨(World.cell?_of_block (a := ⟨S, 0, none⟩) hb).trans h.c0, (World.cell?_of_block (a := ⟨S, 1, none⟩) hb).trans h.c1, ⟨v, (World.cell?_of_block (a := ⟨S, 2, none⟩) hb).trans h2, o2.kept hg (by cases e : v.ownBlock <;> simp)⟩, ⟨x, (World.cell?_of_block (a := ⟨S, 3, none⟩) hb).trans h3, e1, syn_kept e2 (fun p _ hs => hg.block p hs.lt (by simp))⟩, ⟨n, (World.cell?_of_block (a := ⟨S, 4, none⟩) hb).trans h4⟩, fun j => (World.frozen?_of_block (a := ⟨S, j, none⟩) hb).trans (h.fz j), h.lt, Nat.le_trans h.le hg.size, fun u hu => h.dr u ((World.cell?_of_block (a := ⟨S, 2, none⟩) hb).symm.trans hu), Nat.lt_of_lt_of_le h.dl hg.size, h.ds⟩
theorem ScAt.alloc {w : World} {S B : Nat} {s : Cfg} (h : ScAt w S B s) (o : Obj) : ScAt (w.alloc o) S B s := h.grew (World.grownBy_alloc w o none)
/-- What a step leaves. -/
def StepPost (S B : Nat) (r : Cfg × Int) (w : World) (e : Ending) (w' : World) : Prop := e = .returned (.int .i64 r.2) ∧ ScAt w' S B r.1 ∧ Gr2 B w w' S S
theorem gs_refl (B S : Nat) (w : World) : Gr2 B w w S S := Gr2.refl B w S S
set_option maxRecDepth 100000 in
theorem errS (S B : Nat) (s : Cfg) (c : Int) (m : ByteArray) (w : World) (h : ScAt w S B s) (hm : m.size ≤ 100) :
    Calls Tryd.prog 106 #[.pointer (some ⟨S, 0, none⟩), .int .u8 c, .string m] w (StepPost S B (errM s) w) := by
  have H := Lib.hid h
  have c0 := h.c0
  obtain ⟨n, c4⟩ := h.c4
  obtain ⟨x, c3, _⟩ := h.c3
  have f0 := h.fz 0
  have f3 := h.fz 3
  have hle := h.le
  have HQ : Hid (ScAt ((w.setCell ⟨S, 0, none⟩ (.func (.func 116) #[] #[])).alloc (Obj.cells #[.string (⟨#[105, 110, 118, 97, 108, 105, 100, 32, 99, 104, 97, 114, 97, 99, 116, 101, 114, 32]⟩ ++ m), .int .i64 n] 98)) S B (s.to .Err)) := Lib.hid ((h.setQ .Err).alloc _)
  obtain ⟨x', c3', _⟩ := HQ.out.c3
  have f3' := HQ.out.fz 3
  have HG : Hid (Gr2 B w ((w.setCell ⟨S, 0, none⟩ (.func (.func 116) #[] #[])).alloc (Obj.cells #[.string (⟨#[105, 110, 118, 97, 108, 105, 100, 32, 99, 104, 97, 114, 97, 99, 116, 101, 114, 32]⟩ ++ m), .int .i64 n] 98)) S S) := Lib.hid (((Gr2.refl B w S S).set _ (q := ⟨S, 0, none⟩) (.inl rfl)).alloc (by simpa [World.setCell] using hle) _)
  clear h
  go_enter Tryd.func106, Tryd.ntmps106
  go_wp2
  go_ret
  exact ⟨rfl, HQ.out.setErr _ hle (syn_new _ _ _ _ (by simp [World.setCell])), HG.out.set _ (q := ⟨S, 3, none⟩) (.inl rfl)⟩
end Go.Proofs.YtklncgmfbflooaaDoor.Kp
