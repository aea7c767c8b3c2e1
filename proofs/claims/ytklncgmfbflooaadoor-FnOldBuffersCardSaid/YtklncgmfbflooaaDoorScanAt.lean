/- The old scanner in memory; its error, white space, the ends of values, its stack: walked. Only the scanner's own block and new memory are written. -/
import Derived.Test.YtklncgmfbflooaaDoorScanV
import Derived.Test.YtklncgmfbflooaaDoorRdNode
import Derived.Laws.EntriesVeiled
namespace Go.Proofs.YtklncgmfbflooaaDoor
open Go.RowKit
/-- The function of a state. -/
def fid : Q → Nat
  | .BV => 88
  | .BVE => 98
  | .BSE => 96
  | .BS => 109
  | .EV => 108
  | .ET => 118
  | .IS => 99
  | .ISE => 110
  | .U => 120
  | .U1 => 126
  | .U12 => 129
  | .U123 => 130
  | .Neg => 100
  | .S1 => 105
  | .S0 => 101
  | .Dot => 111
  | .Dot0 => 121
  | .E => 112
  | .ESign => 122
  | .E0 => 127
  | .T => 102
  | .Tr => 113
  | .Tru => 123
  | .F => 103
  | .Fa => 114
  | .Fal => 124
  | .Fals => 128
  | .N => 104
  | .Nu => 115
  | .Nul => 125
  | .Err => 116
/-- The stack's cells, the bottom first. -/
def stackC (st : List Int) : List Value := st.reverse.map (Value.int .i64)
theorem stackC_length (st : List Int) : (stackC st).length = st.length := by simp [stackC]
theorem stackC_cons (p : Int) (r : List Int) : stackC (p :: r) = stackC r ++ [.int .i64 p] := by simp [stackC]
theorem stackC_top (p : Int) (r : List Int) : (stackC (p :: r))[r.length]? = some (.int .i64 p) := by
  rw [stackC_cons, List.getElem?_append_right (by rw [stackC_length]; exact Nat.le_refl _), stackC_length]; simp
theorem stackC_set (p x : Int) (r : List Int) : (stackC (p :: r)).set r.length (.int .i64 x) = stackC (x :: r) := by
  rw [stackC_cons, stackC_cons, List.set_append, if_neg (by rw [stackC_length]; omega), stackC_length, Nat.sub_self]; rfl
/-- A syntax error of the package in memory. -/
def SynAt (w : World) (p : Nat) : Prop := ∃ m k, w.heap[p]? = some (Obj.cells #[.string m, .int .i64 k] 98)
theorem SynAt.lt {w : World} {p : Nat} (h : SynAt w p) : p < w.heap.size := by
  obtain ⟨m, k, h⟩ := h
  exact (Array.getElem?_eq_some_iff.1 h).1
theorem SynAt.same {w w' : World} {p : Nat} (h : SynAt w p) (e : w'.heap[p]? = w.heap[p]?) : SynAt w' p := by
  obtain ⟨m, k, h⟩ := h
  exact ⟨m, k, e.trans h⟩
theorem syn_new (w : World) (m : ByteArray) (k : Int) (n : Nat) (hn : w.heap.size = n) : SynAt (w.alloc (Obj.cells #[.string m, .int .i64 k] 98)) n := by
  subst hn
  refine ⟨m, k, ?_⟩
  show (w.heap.push _)[w.heap.size]? = _
  rw [Array.getElem?_push, if_pos rfl]
theorem syn_kept {w w' : World} {B : Nat} {er : Bool} {v : Value} (h : er = true → ∃ p, v = .iface 94 (.pointer (some ⟨p, 0, none⟩)) ∧ B ≤ p ∧ SynAt w p) (hk : ∀ p, B ≤ p → SynAt w p → w'.heap[p]? = w.heap[p]?) :
    er = true → ∃ p, v = .iface 94 (.pointer (some ⟨p, 0, none⟩)) ∧ B ≤ p ∧ SynAt w' p := fun q => by
  obtain ⟨p, a, b, c⟩ := h q
  exact ⟨p, a, b, c.same (hk p b c)⟩
theorem syn_set {w : World} {S B : Nat} (hl : S < B) (j : Nat) (u : Value) : ∀ p, B ≤ p → SynAt w p → (w.setCell ⟨S, j, none⟩ u).heap[p]? = w.heap[p]? := fun p hp _ => Below.heap_setCell _ _ _ _ (by show p ≠ S; omega)
/-- A scanner in block S; its stack's row lies from B on. -/
structure ScAt (w : World) (S B : Nat) (s : Cfg) : Prop where
  c0 : w.cell? ⟨S, 0, none⟩ = some (.func (.func (fid s.q)) #[] #[])
  c1 : w.cell? ⟨S, 1, none⟩ = some (.bool s.top)
  c2 : ∃ v, w.cell? ⟨S, 2, none⟩ = some v ∧ w.ownsRow B 3 1 v s.st.length (stackC s.st)
  c3 : ∃ v, w.cell? ⟨S, 3, none⟩ = some v ∧ (s.er = false → v = .nilIface) ∧ (s.er = true → ∃ p, v = .iface 94 (.pointer (some ⟨p, 0, none⟩)) ∧ B ≤ p ∧ SynAt w p)
  c4 : ∃ n, w.cell? ⟨S, 4, none⟩ = some (.int .i64 n)
  fz : ∀ j, w.frozen? ⟨S, j, none⟩ = false
  lt : S < B
  le : B ≤ w.heap.size
theorem ScAt.drew {w : World} {S B : Nat} {s : Cfg} (h : ScAt w S B s) : ScAt w.drew S B s := ⟨h.c0, h.c1, h.c2, h.c3, h.c4, h.fz, h.lt, h.le⟩
theorem ScAt.setQ {w : World} {S B : Nat} {s : Cfg} (h : ScAt w S B s) (q : Q) : ScAt (w.setCell ⟨S, 0, none⟩ (.func (.func (fid q)) #[] #[])) S B (s.to q) := by
  obtain ⟨v, h2, o2⟩ := h.c2
  obtain ⟨x, h3, e1, e2⟩ := h.c3
  obtain ⟨n, h4⟩ := h.c4
  exact ⟨World.cell?_setCell_same _ _ _ h.c0, (World.cell?_setCell_other _ _ _ _ (by simp)).trans h.c1, ⟨v, (World.cell?_setCell_other _ _ _ _ (by simp)).trans h2, ownsRow_setCell_below o2 h.lt _⟩, ⟨x, (World.cell?_setCell_other _ _ _ _ (by simp)).trans h3, e1, syn_kept e2 (syn_set h.lt _ _)⟩, ⟨n, (World.cell?_setCell_other _ _ _ _ (by simp)).trans h4⟩, fun j => by rw [World.frozen?_setCell]; exact h.fz j, h.lt, by simpa [World.setCell] using h.le⟩
theorem ScAt.setTop {w : World} {S B : Nat} {s : Cfg} (h : ScAt w S B s) (b : Bool) : ScAt (w.setCell ⟨S, 1, none⟩ (.bool b)) S B { s with top := b } := by
  obtain ⟨v, h2, o2⟩ := h.c2
  obtain ⟨x, h3, e1, e2⟩ := h.c3
  obtain ⟨n, h4⟩ := h.c4
  exact ⟨(World.cell?_setCell_other _ _ _ _ (by simp)).trans h.c0, World.cell?_setCell_same _ _ _ h.c1, ⟨v, (World.cell?_setCell_other _ _ _ _ (by simp)).trans h2, ownsRow_setCell_below o2 h.lt _⟩, ⟨x, (World.cell?_setCell_other _ _ _ _ (by simp)).trans h3, e1, syn_kept e2 (syn_set h.lt _ _)⟩, ⟨n, (World.cell?_setCell_other _ _ _ _ (by simp)).trans h4⟩, fun j => by rw [World.frozen?_setCell]; exact h.fz j, h.lt, by simpa [World.setCell] using h.le⟩
theorem ScAt.setN {w : World} {S B : Nat} {s : Cfg} (h : ScAt w S B s) (k : Int) : ScAt (w.setCell ⟨S, 4, none⟩ (.int .i64 k)) S B s := by
  obtain ⟨v, h2, o2⟩ := h.c2
  obtain ⟨x, h3, e1, e2⟩ := h.c3
  obtain ⟨n, h4⟩ := h.c4
  exact ⟨(World.cell?_setCell_other _ _ _ _ (by simp)).trans h.c0, (World.cell?_setCell_other _ _ _ _ (by simp)).trans h.c1, ⟨v, (World.cell?_setCell_other _ _ _ _ (by simp)).trans h2, ownsRow_setCell_below o2 h.lt _⟩, ⟨x, (World.cell?_setCell_other _ _ _ _ (by simp)).trans h3, e1, syn_kept e2 (syn_set h.lt _ _)⟩, ⟨k, World.cell?_setCell_same _ _ _ h4⟩, fun j => by rw [World.frozen?_setCell]; exact h.fz j, h.lt, by simpa [World.setCell] using h.le⟩
theorem ScAt.setErr {w : World} {S B : Nat} {s : Cfg} (h : ScAt w S B s) (p : Nat) (hp : B ≤ p) (hs : SynAt w p) : ScAt (w.setCell ⟨S, 3, none⟩ (.iface 94 (.pointer (some ⟨p, 0, none⟩)))) S B { s with er := true } := by
  obtain ⟨v, h2, o2⟩ := h.c2
  obtain ⟨x, h3, e1, e2⟩ := h.c3
  obtain ⟨n, h4⟩ := h.c4
  exact ⟨(World.cell?_setCell_other _ _ _ _ (by simp)).trans h.c0, (World.cell?_setCell_other _ _ _ _ (by simp)).trans h.c1, ⟨v, (World.cell?_setCell_other _ _ _ _ (by simp)).trans h2, ownsRow_setCell_below o2 h.lt _⟩, ⟨_, World.cell?_setCell_same _ _ _ h3, (fun q => by cases q), fun _ => ⟨p, rfl, hp, hs.same (syn_set h.lt _ _ p hp hs)⟩⟩, ⟨n, (World.cell?_setCell_other _ _ _ _ (by simp)).trans h4⟩, fun j => by rw [World.frozen?_setCell]; exact h.fz j, h.lt, by simpa [World.setCell] using h.le⟩
/-- It stays while its block and its row stay. -/
theorem ScAt.grew {w w' : World} {S B : Nat} {s : Cfg} (h : ScAt w S B s) (hg : w.grownBy w' none) : ScAt w' S B s := by
  obtain ⟨v, h2, o2⟩ := h.c2
  obtain ⟨x, h3, e1, e2⟩ := h.c3
  obtain ⟨n, h4⟩ := h.c4
  have hb := hg.block S (Nat.lt_of_lt_of_le h.lt h.le) (by simp)
  exact ⟨(World.cell?_of_block (a := ⟨S, 0, none⟩) hb).trans h.c0, (World.cell?_of_block (a := ⟨S, 1, none⟩) hb).trans h.c1, ⟨v, (World.cell?_of_block (a := ⟨S, 2, none⟩) hb).trans h2, o2.kept hg (by cases e : v.ownBlock <;> simp)⟩, ⟨x, (World.cell?_of_block (a := ⟨S, 3, none⟩) hb).trans h3, e1, syn_kept e2 (fun p _ hs => hg.block p hs.lt (by simp))⟩, ⟨n, (World.cell?_of_block (a := ⟨S, 4, none⟩) hb).trans h4⟩, fun j => (World.frozen?_of_block (a := ⟨S, j, none⟩) hb).trans (h.fz j), h.lt, Nat.le_trans h.le hg.size⟩
theorem ScAt.alloc {w : World} {S B : Nat} {s : Cfg} (h : ScAt w S B s) (o : Obj) : ScAt (w.alloc o) S B s := h.grew (World.grownBy_alloc w o none)
/-- What a step leaves. -/
def StepPost (S B : Nat) (r : Cfg × Int) (w : World) (e : Ending) (w' : World) : Prop := e = .returned (.int .i64 r.2) ∧ ScAt w' S B r.1 ∧ Gr2 B w w' S S
theorem gs_refl (B S : Nat) (w : World) : Gr2 B w w S S := Gr2.refl B w S S
theorem isSpaceO (c : Int) (w : World) : Calls Tryd.prog 95 #[.int .u8 c] w fun e w' => e = .returned (.bool (decide (isSp c))) ∧ w' = w := by
  by_cases h0 : c ≤ 32
  · by_cases h1 : c = 32
    · subst h1
      go_enter Tryd.func95, Tryd.ntmps95
      go_wp2
      go_ret
      exact ⟨rfl, rfl⟩
    · by_cases h2 : c = 9
      · subst h2
        go_enter Tryd.func95, Tryd.ntmps95
        go_wp2
        go_ret
        exact ⟨rfl, rfl⟩
      · by_cases h3 : c = 13
        · subst h3
          go_enter Tryd.func95, Tryd.ntmps95
          go_wp2
          go_ret
          exact ⟨rfl, rfl⟩
        · by_cases h4 : c = 10
          · subst h4
            go_enter Tryd.func95, Tryd.ntmps95
            go_wp2
            go_ret
            exact ⟨rfl, rfl⟩
          · have e : decide (isSp c) = false := decide_eq_false (by unfold isSp; omega)
            rw [e]
            have b1 : (c == 32) = false := by simpa using h1
            have b2 : (c == 9) = false := by simpa using h2
            have b3 : (c == 13) = false := by simpa using h3
            have b4 : (c == 10) = false := by simpa using h4
            clear h1 h2 h3 h4 e
            go_enter Tryd.func95, Tryd.ntmps95
            go_wp2
            go_ret
            exact ⟨rfl, rfl⟩
  · have e : decide (isSp c) = false := decide_eq_false (by unfold isSp; omega)
    rw [e]
    clear e
    go_enter Tryd.func95, Tryd.ntmps95
    go_wp2
    go_ret
    exact ⟨rfl, rfl⟩
set_option maxRecDepth 100000 in
theorem errS (S B : Nat) (s : Cfg) (c : Int) (m : ByteArray) (w : World) (h : ScAt w S B s) (hm : m.size ≤ 100) :
    Calls Tryd.prog 106 #[.pointer (some ⟨S, 0, none⟩), .int .u8 c, .string m] w (StepPost S B (errM s) w) := by
  have H := Lib.hid h
  have c0 := h.c0
  obtain ⟨n, c4⟩ := h.c4
  obtain ⟨x, c3, _⟩ := h.c3
  have f0 := h.fz 0
  have f3 := h.fz 3
  have hle := h.le
  have HQ : Hid (ScAt ((w.setCell ⟨S, 0, none⟩ (.func (.func 116) #[] #[])).alloc (Obj.cells #[.string (⟨#[105, 110, 118, 97, 108, 105, 100, 32, 99, 104, 97, 114, 97, 99, 116, 101, 114, 32]⟩ ++ m), .int .i64 n] 98)) S B (s.to .Err)) := Lib.hid ((h.setQ .Err).alloc _)
  obtain ⟨x', c3', _⟩ := HQ.out.c3
  have f3' := HQ.out.fz 3
  have HG : Hid (Gr2 B w ((w.setCell ⟨S, 0, none⟩ (.func (.func 116) #[] #[])).alloc (Obj.cells #[.string (⟨#[105, 110, 118, 97, 108, 105, 100, 32, 99, 104, 97, 114, 97, 99, 116, 101, 114, 32]⟩ ++ m), .int .i64 n] 98)) S S) := Lib.hid (((Gr2.refl B w S S).set _ (q := ⟨S, 0, none⟩) (.inl rfl)).alloc (by simpa [World.setCell] using hle) _)
  clear h
  go_enter Tryd.func106, Tryd.ntmps106
  go_wp2
  go_ret
  exact ⟨rfl, HQ.out.setErr _ hle (syn_new _ _ _ _ (by simp [World.setCell])), HG.out.set _ (q := ⟨S, 3, none⟩) (.inl rfl)⟩
end Go.Proofs.YtklncgmfbflooaaDoor
