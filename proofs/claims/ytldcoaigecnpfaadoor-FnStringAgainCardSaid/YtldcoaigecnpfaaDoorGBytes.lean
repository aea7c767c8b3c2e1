/- A text's bytes in new memory: what the conversion to a slice of bytes leaves. Bytes that a call appends to: a slice of bytes at any place of a row (new, or a given one behind its first bytes), and 'append' onto it. Of no function of the program. -/
import Derived.Test.YtldcoaigecnpfaaDoorGClose
import Derived.Test.YtldcoaigecnpfaaDoorProg
import Derived.Lib.ConvBytes
import Derived.WalkSpells
import Derived.Laws.BytesArg
import Derived.Lib.FrozenHead2
import Derived.Lib.AppendStr
import Derived.Laws.AppendOwn
import Derived.Deep.RegionLaw
namespace Go.Proofs.YtldcoaigecnpfaaDoor
open Go.RowKit
/-- Bytes in the cells of a row. -/
def BytesAt (w : World) (g o : Nat) (l : List UInt8) : Prop := ∀ j, j < l.length → w.cell? ⟨g, o + j, none⟩ = some (.int .u8 (atL l j))
/-- The world behind the conversion, under a name that the walk does not open. -/
def convWorld (w : World) (s : ByteArray) : World := Lib.bytesWorld w 5 s
def convCap (w : World) (s : ByteArray) : Nat := grownCap w s.size 0 5
theorem run_conv (s : ByteArray) (w : World) : (convert 9 23 (.string s)).run Tryd.prog w = .ok (.slice (some ⟨w.heap.size, 0, none⟩) s.size (convCap w s)) (convWorld w s) :=
  Lib.run_convert_string_bytes w 9 23 5 s Tryd.underlying9 Tryd.underlying23 Tryd.underlying5
theorem conv_below (s : ByteArray) (w : World) : Below w.heap.size w (convWorld w s) := by
  refine ⟨rfl, rfl, rfl, ?_, fun k hk => Lib.bytesWorld_at_old w _ s k hk⟩
  show _ ≤ (Lib.bytesWorld w 5 s).heap.size
  rw [Lib.bytesWorld_size]; omega
theorem conv_size (s : ByteArray) (w : World) : (convWorld w s).heap.size = w.heap.size + 1 := Lib.bytesWorld_size w _ s
theorem conv_bytes (s : ByteArray) (w : World) : BytesAt (convWorld w s) w.heap.size 0 s.data.toList := fun j hj => by
  rw [Nat.zero_add]
  exact Lib.bytesWorld_cell w _ s j (by rw [← size_list]; exact hj)
theorem BytesAt.below {w w' : World} {g o : Nat} {l : List UInt8} (h : BytesAt w g o l) (hb : Below w.heap.size w w') (hg : g < w.heap.size) : BytesAt w' g o l := fun j hj => (hb.cell (p := ⟨g, o + j, none⟩) hg).trans (h j hj)
end Go.Proofs.YtldcoaigecnpfaaDoor
namespace Go.Proofs.YtldcoaigecnpfaaDoor
open Go.RowKit
/-- Bytes as cells. -/
def nums (l : List UInt8) : List Value := l.map fun b => Value.int .u8 b.toNat
theorem nums_length (l : List UInt8) : (nums l).length = l.length := by simp [nums]
theorem nums_append (l m : List UInt8) : nums (l ++ m) = nums l ++ nums m := by simp [nums]
theorem nums_one (l : List UInt8) : ∀ u ∈ nums l, u.oneCell' = true := by
  intro u hu
  simp only [nums, List.mem_map] at hu
  obtain ⟨b, _, rfl⟩ := hu
  rfl
theorem nums_get (l : List UInt8) (j : Nat) (h : j < l.length) : (nums l)[j]? = some (.int .u8 (atL l j)) := by
  simp [nums, atL, h, List.getD_eq_getElem?_getD]
theorem nums_get_iff {l : List UInt8} {j : Nat} {u : Value} (h : (nums l)[j]? = some u) : j < l.length ∧ u = .int .u8 (atL l j) := by
  have hj : j < l.length := by
    rcases Nat.lt_or_ge j l.length with h1 | h1
    · exact h1
    · rw [List.getElem?_eq_none (by rw [nums_length]; exact h1)] at h; cases h
  rw [nums_get l j hj] at h
  exact ⟨hj, (Option.some.inj h).symm⟩
/-- A slice value that holds bytes: new memory from 'base' on, or the place G. -/
def Buf (w : World) (base : Nat) (G : Option (Nat × Nat)) (v : Value) (l : List UInt8) : Prop :=
  (v = .slice none 0 0 ∧ l = []) ∨
  ∃ (g o cap : Nat) (cur : Array Value) (fz : Nat × Nat), v = .slice (some ⟨g, o, none⟩) l.length cap ∧ (base ≤ g ∨ G = some (g, o)) ∧ w.heap[g]? = some (.cells cur 5 fz) ∧ l.length ≤ cap ∧ cap ≤ maxLen ∧ o + cap ≤ cur.size ∧
    (fz.2 ≤ o + l.length ∨ o + cap ≤ fz.1) ∧ ∀ j, j < l.length → cur[o + j]? = some (.int .u8 (atL l j))
/-- A row stays one, of the same size and under the same freeze. -/
def RowKept (w w' : World) (g : Nat) : Prop := ∀ cur t f, w.heap[g]? = some (.cells cur t f) → ∃ cur', w'.heap[g]? = some (.cells cur' t f) ∧ cur'.size = cur.size
theorem RowKept.same {w w' : World} {g : Nat} (h : w'.heap[g]? = w.heap[g]?) : RowKept w w' g := fun cur _ _ hc => ⟨cur, h.trans hc, rfl⟩
theorem RowKept.trans {a b c : World} {g : Nat} (h : RowKept a b g) (k : RowKept b c g) : RowKept a c g := fun cur t f hc => by
  obtain ⟨c1, h1, e1⟩ := h cur t f hc
  obtain ⟨c2, h2, e2⟩ := k c1 t f h1
  exact ⟨c2, h2, e2.trans e1⟩
/-- What stays: all below 'base' but the place G, and of G's row what lies ahead of it. -/
structure Fr (base : Nat) (G : Option (Nat × Nat)) (w w' : World) : Prop where
  os : w'.os = w.os
  tape : w'.tape = w.tape
  output : w'.output = w.output
  size : w.heap.size ≤ w'.heap.size
  block : ∀ k, k < base → (∀ o, G ≠ some (k, o)) → w'.heap[k]? = w.heap[k]?
  head : ∀ g o, G = some (g, o) → ∀ j, j < o → w'.cell? ⟨g, j, none⟩ = w.cell? ⟨g, j, none⟩
  row : ∀ g o, G = some (g, o) → RowKept w w' g
theorem Fr.refl (base : Nat) (G : Option (Nat × Nat)) (w : World) : Fr base G w w := ⟨rfl, rfl, rfl, Nat.le_refl _, fun _ _ _ => rfl, fun _ _ _ _ _ => rfl, fun _ _ _ => .same rfl⟩
theorem Fr.trans {base : Nat} {G : Option (Nat × Nat)} {a b c : World} (h : Fr base G a b) (k : Fr base G b c) : Fr base G a c :=
  ⟨k.os.trans h.os, k.tape.trans h.tape, k.output.trans h.output, Nat.le_trans h.size k.size, fun i hi hn => (k.block i hi hn).trans (h.block i hi hn), fun g o e j hj => (k.head g o e j hj).trans (h.head g o e j hj), fun g o e => (h.row g o e).trans (k.row g o e)⟩
theorem Fr.below {base : Nat} {w w' : World} (h : Fr base none w w') : Below base w w' := ⟨h.os, h.tape, h.output, h.size, fun k hk => h.block k hk (fun _ => by simp)⟩
theorem Fr.of_below {base : Nat} {G : Option (Nat × Nat)} {w w' : World} (h : Below base w w') (hG : ∀ g o, G = some (g, o) → g < base) : Fr base G w w' :=
  ⟨h.os, h.tape, h.output, h.size, fun k hk _ => h.block k hk, fun g o e j _ => World.cell?_of_block (a := ⟨g, j, none⟩) (h.block g (hG g o e)), fun g o e => .same (h.block g (hG g o e))⟩
theorem Fr.mono {b c : Nat} {G : Option (Nat × Nat)} {w w' : World} (h : Fr c G w w') (hb : b ≤ c) : Fr b G w w' := ⟨h.os, h.tape, h.output, h.size, fun k hk hn => h.block k (Nat.lt_of_lt_of_le hk hb) hn, h.head, h.row⟩
theorem Buf.nil (w : World) (base : Nat) (G : Option (Nat × Nat)) : Buf w base G (.slice none 0 0) [] := .inl ⟨rfl, rfl⟩
theorem Buf.block {w : World} {base : Nat} {G : Option (Nat × Nat)} {v : Value} {l : List UInt8} (h : Buf w base G v l) : ∀ g, v.ownBlock = some g → g < w.heap.size := by
  intro g hg
  rcases h with ⟨rfl, _⟩ | ⟨g', o, cap, cur, fz, rfl, _, hh, _⟩
  · simp [Value.ownBlock] at hg
  · simp [Value.ownBlock] at hg; subst hg; exact (Array.getElem?_eq_some_iff.1 hh).1
/-- A buffer lies in a world that keeps its block. -/
theorem Buf.kept {w w' : World} {base : Nat} {G : Option (Nat × Nat)} {v : Value} {l : List UInt8} (h : Buf w base G v l) (hk : ∀ g, v.ownBlock = some g → w'.heap[g]? = w.heap[g]?) : Buf w' base G v l := by
  rcases h with ⟨rfl, rfl⟩ | ⟨g, o, cap, cur, fz, rfl, hb, hh, rest⟩
  · exact .inl ⟨rfl, rfl⟩
  · exact .inr ⟨g, o, cap, cur, fz, rfl, hb, (hk g rfl).trans hh, rest⟩
theorem alloc_old (w : World) (o : Obj) (k : Nat) (h : k < w.heap.size) : (w.alloc o).heap[k]? = w.heap[k]? := by
  show (w.heap.push o)[k]? = w.heap[k]?
  rw [Array.getElem?_push, if_neg (Nat.ne_of_lt h)]
theorem alloc_new (w : World) (o : Obj) : (w.alloc o).heap[w.heap.size]? = some o := by
  show (w.heap.push o)[w.heap.size]? = some o
  simp
theorem Buf.alloc {w : World} {base : Nat} {G : Option (Nat × Nat)} {v : Value} {l : List UInt8} (h : Buf w base G v l) (o : Obj) : Buf (w.alloc o) base G v l :=
  h.kept fun g hg => alloc_old w o g (h.block g hg)
theorem Buf.drewN {w : World} {base : Nat} {G : Option (Nat × Nat)} {v : Value} {l : List UInt8} (h : Buf w base G v l) (n : Nat) : Buf (w.drewN n) base G v l := h
theorem Buf.below {w w' : World} {base n : Nat} {G : Option (Nat × Nat)} {v : Value} {l : List UInt8} (h : Buf w base G v l) (hb : Below n w w') (hn : ∀ g, v.ownBlock = some g → g < n) : Buf w' base G v l :=
  h.kept fun g hg => hb.block g (hn g hg)
/-- Its bytes, as cells. -/
theorem Buf.bytes {w : World} {base : Nat} {G : Option (Nat × Nat)} {g o n cap : Nat} {l : List UInt8} (h : Buf w base G (.slice (some ⟨g, o, none⟩) n cap) l) : BytesAt w g o l ∧ n = l.length := by
  rcases h with ⟨h, _⟩ | ⟨g', o', cap', cur, fz, hv, _, hh, _, _, _, _, hc⟩
  · cases h
  · cases hv
    exact ⟨fun j hj => by rw [cell_of_row w g (o + j) cur _ fz hh]; exact hc j hj, rfl⟩
/-- What may be appended: a slice's bytes, a nil slice, a text. -/
inductive Src (w : World) : TypeId → Value → List UInt8 → Prop
  | slice (g o c : Nat) (l : List UInt8) (h : BytesAt w g o l) : Src w 23 (.slice (some ⟨g, o, none⟩) l.length c) l
  | none (c : Nat) : Src w 23 (.slice none 0 c) []
  | text (s : ByteArray) : Src w 9 (.string s) s.data.toList
theorem infoU8 : (Tryd.prog.info? 5).map (fun i => (i.zero, i.size, i.bytes)) = some (some (.int .u8 0), 1, 1) := by kernel_rfl
theorem addr_add (g o j : Nat) : (⟨g, o, Option.none⟩ : Addr).add j = ⟨g, o + j, Option.none⟩ := by unfold Addr.add; split <;> simp_all
theorem Src.len {w : World} {u : TypeId} {X : Value} {l : List UInt8} (h : Src w u X l) (W : World) : (Builtin.lenOf X).run Tryd.prog W = .ok l.length W := by
  cases h <;> rfl
theorem Src.cells {w : World} {u : TypeId} {X : Value} {l : List UInt8} (h : Src w u X l) (n : Nat) : (Builtin.firstCells 1 l.length X).run Tryd.prog (w.drewN n) = .ok (nums l).toArray (w.drewN n) := by
  cases h with
  | slice g o c l h =>
    refine run_firstCells_some (P := Tryd.prog) (w.drewN n) 1 l.length ⟨g, o, Option.none⟩ l.length c (nums l) (by rw [nums_length, Nat.mul_one]) fun j v hv => ?_
    obtain ⟨hj, rfl⟩ := nums_get_iff hv
    rw [addr_add]
    exact h j hj
  | none c => rfl
  | text s =>
    have := Lib.run_firstCells_string (P := Tryd.prog) (w.drewN n) 1 s
    exact this
theorem Src.und {w : World} {u : TypeId} {X : Value} {l : List UInt8} (h : Src w u X l) : Tryd.prog.underlying u = some .string ∨ Tryd.prog.underlying u = some (.slice 5) := by
  cases h
  · exact .inr Tryd.underlying23
  · exact .inr Tryd.underlying23
  · exact .inl Tryd.underlying9
/-- Storing cells of which none is frozen. -/
theorem run_storeCells_G (P : Program) (g o : Nat) (t : TypeId) (fz : Nat × Nat) : ∀ (vs : List Value) (i : Nat) (cur : Array Value) (w : World), w.heap[g]? = some (.cells cur t fz) → (fz.2 ≤ o + i ∨ o + i + vs.length ≤ fz.1) → o + i + vs.length ≤ cur.size → (∀ v ∈ vs, v.oneCell' = true) →
    (storeCells ⟨g, o, none⟩ vs i).run P w = .ok () (w.setRow g (cur.toList.take (o + i) ++ vs ++ cur.toList.drop (o + i + vs.length)).toArray)
  | [], i, cur, w, hg, _, _, _ => by
    simp only [storeCells, List.append_nil, List.length_nil, Nat.add_zero, List.take_append_drop, Array.toArray_toList]
    rw [setRow_self w g cur t fz hg]
    rfl
  | v :: rest, i, cur, w, hg, hfz, hl, h1 => by
    have hi : o + i < cur.size := by simp at hl; omega
    have hadd : (⟨g, o, none⟩ : Addr).add i = ⟨g, o + i, none⟩ := addr_add g o i
    have hcell : w.cell? ⟨g, o + i, none⟩ = some cur[o + i] := by simp [World.cell?, hg, hi]
    have hfro : w.frozen? ⟨g, o + i, none⟩ = false := by
      obtain ⟨lo, hi'⟩ := fz
      simp only [World.frozen?, hg, Bool.and_eq_false_iff, decide_eq_false_iff_not]
      simp only [List.length_cons] at hfz
      omega
    have hst : (store ((⟨g, o, none⟩ : Addr).add i) v).run P w = .ok () (w.setRow g (cur.setIfInBounds (o + i) v)) := by
      rw [hadd, run_store P w _ v _ (h1 v (by simp)), hcell]
      simp [hfro, setCell_eq_setRow w g (o + i) cur t fz v hg]
    have ih := run_storeCells_G P g o t fz rest (i + 1) (cur.setIfInBounds (o + i) v) (w.setRow g (cur.setIfInBounds (o + i) v)) (setRow_heap w g cur _ t _ hg) (by simp only [List.length_cons] at hfz; omega) (by simp at hl ⊢; omega) (fun x hx => h1 x (by simp [hx]))
    simp only [storeCells, Sem.run_bind, hst, Result.andThen_ok, ih, setRow_setRow]
    congr 3
    have e := list_seg_step cur.toList (o + i) v rest (by simp at hl ⊢; omega)
    simpa [Array.toList_setIfInBounds, Nat.add_assoc] using e
theorem seg_get (c : List Value) (p : Nat) (m : List Value) (h : p + m.length ≤ c.length) (k : Nat) : (c.take p ++ m ++ c.drop (p + m.length))[k]? = if k < p then c[k]? else if k < p + m.length then m[k - p]? else c[k]? := by
  have hp : (c.take p).length = p := by simp; omega
  by_cases h1 : k < p
  · rw [if_pos h1, List.append_assoc, List.getElem?_append_left (by omega), List.getElem?_take, if_pos h1]
  · rw [if_neg h1]
    by_cases h2 : k < p + m.length
    · rw [if_pos h2, List.getElem?_append_left (by simp; omega), List.getElem?_append_right (by omega), hp]
    · rw [if_neg h2, List.getElem?_append_right (by simp; omega), List.getElem?_drop]
      congr 1
      simp
      omega
theorem atL_app_left (l m : List UInt8) (j : Nat) (h : j < l.length) : atL (l ++ m) j = atL l j := by
  unfold atL; simp [List.getD_eq_getElem?_getD, List.getElem?_append_left h]
theorem atL_app_right (l m : List UInt8) (j : Nat) (h : l.length ≤ j) : atL (l ++ m) j = atL m (j - l.length) := by
  unfold atL; simp [List.getD_eq_getElem?_getD, List.getElem?_append_right h]
set_option maxRecDepth 100000 in
/-- THE LAW of append. -/
theorem run_append_buf (w : World) (base : Nat) (G : Option (Nat × Nat)) (v : Value) (l : List UInt8) (hB : Buf w base G v l) (ty u : TypeId) (X : Value) (m : List UInt8) (hX : Src w u X m)
    (hsz : l.length + m.length ≤ 140737488355328) (hbase : base ≤ w.heap.size) (hG : ∀ g o, G = some (g, o) → g < base) :
    ∃ v' w', (Builtin.append_ #[23, u] ty #[v, X]).run Tryd.prog w = .ok v' w' ∧ Buf w' base G v' (l ++ m) ∧ w.grownBy w' v.ownBlock ∧ Fr base G w w' ∧ (v' = .slice none 0 0 ↔ v = .slice none 0 0 ∧ m = []) := by
  obtain ⟨i, hi, hz, hs, hby⟩ := info_parts infoU8
  have hL := hX.len w
  have hF := hX.cells 0
  have hF1 := hX.cells 1
  have hd : w.drewN 1 = w.drew := rfl
  have hd0 : w.drewN 0 = w := rfl
  rw [hd] at hF1
  rw [hd0] at hF
  have hun := Tryd.underlying23
  have hone : (Value.int IntKind.u8 0).cells.size = 1 := rfl
  rcases hB with ⟨rfl, rfl⟩ | ⟨g, o, cap, cur, fz, rfl, hgb, hg, hlc, hcm, hoc, hfz, hcells⟩
  · by_cases hm : m.length = 0
    · obtain rfl : m = [] := List.eq_nil_of_length_eq_zero hm
      refine ⟨.slice none 0 0, w, ?_, .inl ⟨rfl, rfl⟩, ⟨rfl, rfl, rfl, Nat.le_refl _, fun _ _ _ => rfl⟩, Fr.refl _ _ _, by simp⟩
      rw [hm] at hL hF
      rcases hX.und with hu | hu <;> simp [Builtin.append_, run_underlying hun, run_underlying hu, sizeOf, typeInfo, hi, hs, hL, hF]
    · have hne : ¬ m = [] := fun e => hm (by rw [e]; rfl)
      have h48 : ¬ (281474976710656 < Builtin.nextslicecap m.length 0) := by rw [nextslicecap_zero (by omega)]; simp at hsz; omega
      refine ⟨.slice (some ⟨w.heap.size, 0, none⟩) m.length (grownCap w m.length 0 5), w.drew.alloc (.cells ((nums m).toArray ++ Builtin.zeroCells (Value.int IntKind.u8 0).cells (grownCap w m.length 0 5 - m.length)) 5), ?_, ?_, ?_, ?_, ?_⟩
      · rcases hX.und with hu | hu <;> simp [Builtin.append_, run_underlying hun, run_underlying hu, sizeOf, typeInfo, zeroValue, hi, hs, hz, hby, hL, hm, h48, Question.forced, hF1, newRow, grownCap, run_firstCells_none]
      · refine .inr ⟨w.heap.size, 0, _, _, (0, 0), rfl, .inl hbase, alloc_new w.drew _, grownCap_ge _ _ _ _, grownCap_le_maxLen _ _ _ _ (by unfold maxLen; simp at hsz; omega), ?_, .inl (Nat.zero_le _), fun j hj => ?_⟩
        · have := grownCap_ge w m.length 0 5
          simp [size_zeroCells, hone, nums_length]; omega
        · simp only [List.nil_append] at hj ⊢
          rw [Nat.zero_add, Array.getElem?_append_left (by simp [nums_length]; exact hj)]
          simpa using nums_get m j hj
      · exact ⟨rfl, rfl, rfl, by simp, fun k hk _ => alloc_old w.drew _ k hk⟩
      · exact ⟨rfl, rfl, rfl, by simp, fun k hk _ => alloc_old w.drew _ k (by show k < w.heap.size; omega), fun g o e j _ => World.cell?_of_block (a := ⟨g, j, none⟩) (alloc_old w.drew _ g (by have := hG g o e; show g < w.heap.size; omega)), fun g o e => .same (alloc_old w.drew _ g (by have := hG g o e; show g < w.heap.size; omega))⟩
      · simp [hne]
  · by_cases hroom : l.length + m.length ≤ cap
    · have hfitm : o + l.length + (nums m).length ≤ cur.size := by rw [nums_length]; omega
      have hst := run_storeCells_G Tryd.prog g (o + l.length) 5 fz (nums m) 0 cur w hg (by rw [nums_length]; omega) (by simpa using hfitm) (nums_one m)
      simp only [Nat.add_zero] at hst
      refine ⟨.slice (some ⟨g, o, none⟩) (l.length + m.length) cap, w.setRow g (cur.toList.take (o + l.length) ++ nums m ++ cur.toList.drop (o + l.length + (nums m).length)).toArray, ?_, ?_, ?_, ?_, ?_⟩
      · rcases hX.und with hu | hu <;> simp [Builtin.append_, run_underlying hun, run_underlying hu, sizeOf, typeInfo, hi, hs, hL, hroom, hF, addr_add, hst]
      · refine .inr ⟨g, o, cap, _, fz, by rw [List.length_append], hgb, setRow_heap w g cur _ _ _ hg, by rw [List.length_append]; exact hroom, hcm, ?_, by rw [List.length_append]; omega, fun j hj => ?_⟩
        · simp only [List.size_toArray, List.length_append, List.length_take, List.length_drop, Array.length_toList]; omega
        · rw [List.length_append] at hj
          rw [List.getElem?_toArray, seg_get _ _ _ (by simpa using hfitm)]
          by_cases hjl : j < l.length
          · rw [if_pos (by omega), atL_app_left _ _ _ hjl, Array.getElem?_toList]; exact hcells j hjl
          · rw [if_neg (by omega), if_pos (by rw [nums_length]; omega), atL_app_right _ _ _ (by omega)]
            have : o + j - (o + l.length) = j - l.length := by omega
            rw [this]
            exact nums_get m _ (by omega)
      · exact ⟨rfl, rfl, rfl, by simp, fun k _ hk => setRow_other w g k _ (fun e => hk (by simp [Value.ownBlock, e]))⟩
      · refine ⟨rfl, rfl, rfl, by simp, fun k hk hn => ?_, fun g' o' e j hj => ?_, fun g' o' e => ?_⟩
        · refine setRow_other w g k _ fun e => ?_
          subst e
          rcases hgb with hgb | hgb
          · omega
          · exact hn o hgb
        · by_cases hgg : g' = g
          · subst hgg
            rw [cell_setRow_same w g' j cur _ _ _ hg, List.getElem?_toArray, seg_get _ _ _ (by simpa using hfitm), cell_of_row w g' j cur _ fz hg]
            have hlo : j < o + l.length := by
              rcases hgb with hgb | hgb
              · have := hG g' o' e
                omega
              · rw [e] at hgb; cases hgb; omega
            rw [if_pos hlo, Array.getElem?_toList]
          · exact World.cell?_of_block (a := ⟨g', j, none⟩) (setRow_other w g g' _ hgg)
        · by_cases hgg : g' = g
          · subst hgg
            intro cur1 t1 f1 h1
            rw [hg] at h1
            injection h1 with h1
            injection h1 with h1 h2 h3
            subst h1 h2 h3
            refine ⟨_, setRow_heap w g' cur _ _ _ hg, ?_⟩
            simp only [List.size_toArray, List.length_append, List.length_take, List.length_drop, Array.length_toList]; omega
          · exact .same (setRow_other w g g' _ hgg)
      · simp
    · have holds : ∀ j u, (nums l)[j]? = some u → w.cell? ((⟨g, o, none⟩ : Addr).add j) = some u := fun j u hu => by
        obtain ⟨hj, rfl⟩ := nums_get_iff hu
        rw [addr_add, cell_of_row w g (o + j) cur _ fz hg]; exact hcells j hj
      have hfo := run_firstCells_some (P := Tryd.prog) w.drew 1 l.length ⟨g, o, none⟩ l.length cap (nums l) (by rw [nums_length, Nat.mul_one]) (by simpa using holds)
      have h48 : ¬ (281474976710656 < Builtin.nextslicecap (l.length + m.length) cap) := by
        have := growslice_fits (need := l.length + m.length) (old := cap) (bytes := 1) (by omega) (by omega)
        omega
      have hge := grownCap_ge w (l.length + m.length) cap 5
      refine ⟨.slice (some ⟨w.heap.size, 0, none⟩) (l.length + m.length) (grownCap w (l.length + m.length) cap 5), w.drew.alloc (.cells ((nums l).toArray ++ (nums m).toArray ++ Builtin.zeroCells (Value.int IntKind.u8 0).cells (grownCap w (l.length + m.length) cap 5 - (l.length + m.length))) 5), ?_, ?_, ?_, ?_, ?_⟩
      · rcases hX.und with hu | hu <;> simp [Builtin.append_, run_underlying hun, run_underlying hu, sizeOf, typeInfo, zeroValue, hi, hs, hz, hby, hL, hroom, h48, Question.forced, hfo, hF1, newRow, grownCap] <;> (congr 2; apply Array.ext'; simp [List.append_assoc])
      · refine .inr ⟨w.heap.size, 0, _, _, (0, 0), by rw [List.length_append], .inl hbase, alloc_new w.drew _, by rw [List.length_append]; exact hge, grownCap_le_maxLen _ _ _ _ (by unfold maxLen; omega), ?_, .inl (Nat.zero_le _), fun j hj => ?_⟩
        · simp [size_zeroCells, hone, nums_length]; omega
        · rw [Nat.zero_add, Array.getElem?_append_left (by simp [nums_length] at hj ⊢; omega)]
          have := nums_get (l ++ m) j hj
          rw [nums_append] at this
          simpa using this
      · exact ⟨rfl, rfl, rfl, by simp, fun k hk _ => alloc_old w.drew _ k hk⟩
      · exact ⟨rfl, rfl, rfl, by simp, fun k hk _ => alloc_old w.drew _ k (by show k < w.heap.size; omega), fun g o e j _ => World.cell?_of_block (a := ⟨g, j, none⟩) (alloc_old w.drew _ g (by have := hG g o e; show g < w.heap.size; omega)), fun g o e => .same (alloc_old w.drew _ g (by have := hG g o e; show g < w.heap.size; omega))⟩
      · simp
/-- THE OPERATION, for a walk. -/
theorem wpList_append_buf {ops : Array Oper} {rest : List Oper} {o : Oper} {a : Act} {Q : Exit → Act → World → Prop} {w : World} (hgd : o.guard = none) (sl x : Operand) (u : TypeId)
    (ho : o.op = .call { callee := .builtin .append, args := #[sl, x], argTypes := #[23, u] })
    (base : Nat) (G : Option (Nat × Nat)) (v : Value) (l : List UInt8) (hs : a.eval sl = v) (hB : Buf w base G v l) (X : Value) (m : List UInt8) (hx : a.eval x = X) (hX : Src w u X m)
    (hsz : l.length + m.length ≤ 140737488355328) (hbase : base ≤ w.heap.size) (hG : ∀ g o, G = some (g, o) → g < base)
    (h : ∀ v' w', Buf w' base G v' (l ++ m) → w.grownBy w' v.ownBlock → Fr base G w w' → (v' = .slice none 0 0 ↔ v = .slice none 0 0 ∧ m = []) → wpList Tryd.prog ops Q rest (a.put o.dst v') w') : wpList Tryd.prog ops Q (o :: rest) a w := by
  refine wpList_plain hgd fun K hK => ?_
  obtain ⟨v', w', hr, h2, h3, h4, h5⟩ := run_append_buf w base G v l hB o.type u X m hX hsz hbase hG
  unfold Oper.wp execOp
  simp only [ho, resolve, invoke, builtin, Sem.run_bind, Sem.run_pure, Result.andThen_ok, List.map_toArray, List.map_cons, List.map_nil, hs, hx, hr]
  exact hK _ _ (h v' w' h2 h3 h4 h5)
/-- The same, as one step of a region that draws its order. -/
theorem step_append_buf {ops : Array Oper} {o : Oper} {a : Act} {w : World} {K : Act → World → Prop} {Q : Exit → Act → World → Prop} {E : Prop}
    (hgd : o.guard = none) (sl x : Operand) (u : TypeId) (ho : o.op = Op.call { callee := Callee.builtin Builtin.append, args := #[sl, x], argTypes := #[23, u] })
    (base : Nat) (G : Option (Nat × Nat)) (v : Value) (l : List UInt8) (hs : a.eval sl = v) (hB : Buf w base G v l) (X : Value) (m : List UInt8) (hx : a.eval x = X) (hX : Src w u X m)
    (hsz : l.length + m.length ≤ 140737488355328) (hbase : base ≤ w.heap.size) (hG : ∀ g o, G = some (g, o) → g < base)
    (hK : ∀ v' w', Buf w' base G v' (l ++ m) → w.grownBy w' v.ownBlock → Fr base G w w' → (v' = .slice none 0 0 ↔ v = .slice none 0 0 ∧ m = []) → K (a.put o.dst v') w') :
    if Region.wanted o (yielded ops a.tmps) = true then Oper.wp Tryd.prog o a w K Q else E := by
  have hw : Region.wanted o (yielded ops a.tmps) = true := by simp [Region.wanted, hgd]
  rw [if_pos hw]
  obtain ⟨v', w', hr, h2, h3, h4, h5⟩ := run_append_buf w base G v l hB o.type u X m hX hsz hbase hG
  unfold Oper.wp
  simp [execOp, ho, resolve, invoke, builtin, hs, hx, hr, Result.andThen]
  exact hK v' w' h2 h3 h4 h5
/-- Where a slice lies. -/
def place : Value → Option (Nat × Nat)
  | .slice (some a) _ _ => some (a.block, a.off)
  | _ => none
theorem Buf.rebase {w : World} {base : Nat} {G : Option (Nat × Nat)} {v : Value} {l : List UInt8} (h : Buf w base G v l) : Buf w w.heap.size (place v) v l := by
  rcases h with ⟨rfl, rfl⟩ | ⟨g, o, cap, cur, fz, rfl, hb, rest⟩
  · exact .inl ⟨rfl, rfl⟩
  · exact .inr ⟨g, o, cap, cur, fz, rfl, .inr rfl, rest⟩
theorem Buf.place_lt {w : World} {base : Nat} {G : Option (Nat × Nat)} {v : Value} {l : List UInt8} (h : Buf w base G v l) : ∀ g o, place v = some (g, o) → g < w.heap.size := by
  intro g o e
  rcases h with ⟨rfl, rfl⟩ | ⟨g', o', cap, cur, fz, rfl, hb, hh, rest⟩
  · cases e
  · cases e; exact (Array.getElem?_eq_some_iff.1 hh).1
theorem Buf.unbase {w w' : World} {base n : Nat} {G : Option (Nat × Nat)} {v v' : Value} {l l' : List UInt8} (h : Buf w base G v l) (k : Buf w' n (place v) v' l') (hb : base ≤ n) : Buf w' base G v' l' := by
  rcases k with ⟨rfl, rfl⟩ | ⟨g, o, cap, cur, fz, rfl, hp, rest⟩
  · exact .inl ⟨rfl, rfl⟩
  · refine .inr ⟨g, o, cap, cur, fz, rfl, ?_, rest⟩
    rcases hp with hp | hp
    · exact .inl (Nat.le_trans hb hp)
    · rcases h with ⟨rfl, rfl⟩ | ⟨g', o', cap', cur', fz', rfl, hq, _⟩
      · cases hp
      · cases hp; exact hq
theorem Fr.unbase {w w' : World} {base n : Nat} {G : Option (Nat × Nat)} {v : Value} {l : List UInt8} (h : Buf w base G v l) (f : Fr n (place v) w w') (hb : base ≤ n) (hG : ∀ g o, G = some (g, o) → g < base) : Fr base G w w' := by
  have hpl : ∀ g o, place v = some (g, o) → base ≤ g ∨ G = some (g, o) := fun g o e => by
    rcases h with ⟨rfl, rfl⟩ | ⟨g', o', cap', cur', fz', rfl, hq, _⟩
    · cases e
    · cases e; exact hq
  refine ⟨f.os, f.tape, f.output, f.size, fun k hk hn => f.block k (by omega) fun o e => ?_, fun g o e j hj => ?_, fun g o e => ?_⟩
  · rcases hpl k o e with h1 | h1
    · omega
    · exact hn o h1
  · have hg := hG g o e
    cases hp : place v with
    | none => exact World.cell?_of_block (a := ⟨g, j, none⟩) (f.block g (by omega) fun o e => by rw [hp] at e; cases e)
    | some q =>
      obtain ⟨g2, o2⟩ := q
      by_cases hgg : g2 = g
      · subst hgg
        rcases hpl g2 o2 hp with h1 | h1
        · omega
        · rw [e] at h1; cases h1; exact f.head g2 o hp j hj
      · exact World.cell?_of_block (a := ⟨g, j, none⟩) (f.block g (by omega) fun o e => by rw [hp] at e; cases e; exact hgg rfl)
  · have hg := hG g o e
    cases hp : place v with
    | none => exact .same (f.block g (by omega) fun o e => by rw [hp] at e; cases e)
    | some q =>
      obtain ⟨g2, o2⟩ := q
      by_cases hgg : g2 = g
      · subst hgg; exact f.row g2 o2 hp
      · exact .same (f.block g (by omega) fun o e => by rw [hp] at e; cases e; exact hgg rfl)
/-- Bytes that lie in a block below, not the one that is written, stay. -/
theorem BytesAt.fr {w w' : World} {base g o : Nat} {G : Option (Nat × Nat)} {l : List UInt8} (h : BytesAt w g o l) (f : Fr base G w w') (hg : g < base) (hn : ∀ q, G ≠ some (g, q)) : BytesAt w' g o l := fun j hj =>
  (World.cell?_of_block (a := ⟨g, o + j, none⟩) (f.block g hg hn)).trans (h j hj)
theorem strOfNums_list (l : List UInt8) : strOfNums ((List.range l.length).map (atL l)) = ⟨l.toArray⟩ := by
  apply ByteArray.ext
  apply Array.toList_inj.1
  rw [strOfNums_data]
  apply List.ext_getElem?
  intro i
  by_cases hi : i < l.length
  · simp [hi, atL]
  · simp [hi]
/-- Bytes back into a text. -/
theorem Buf.text {w : World} {base : Nat} {G : Option (Nat × Nat)} {v : Value} {l : List UInt8} (h : Buf w base G v l) : (convert 23 9 v).run Tryd.prog w = .ok (.string ⟨l.toArray⟩) w := by
  rcases h with ⟨rfl, rfl⟩ | ⟨g, o, cap, cur, fz, rfl, _, hh, _, _, _, _, hc⟩
  · exact run_convert_bytes_nil _ _ 5 Tryd.underlying23 Tryd.underlying5 0 0 9 Tryd.underlying9
  · rw [← strOfNums_list l]
    refine run_convert_bytes_arg _ _ 5 Tryd.underlying23 Tryd.underlying5 g o l.length cap _ (by simp) (fun i hi => ?_) 9 Tryd.underlying9
    rw [cell_of_row w g (o + i) cur _ fz hh, hc i hi]
    simp [List.getD_eq_getElem?_getD, hi]
/-- The bytes of a text, in new memory. -/
theorem conv_buf (s : ByteArray) (w : World) (h : s.size ≤ maxLen) : Buf (convWorld w s) w.heap.size none (.slice (some ⟨w.heap.size, 0, none⟩) s.size (convCap w s)) s.data.toList := by
  have hn := Lib.bytesWorld_at_new w 5 s
  have hge : s.size ≤ convCap w s := grownCap_ge _ _ _ _
  have hsz : (Lib.bytesCells w 5 s).size = convCap w s := by
    unfold Lib.bytesCells convCap
    have : s.size ≤ grownCap w s.size 0 5 := hge
    simp
    omega
  refine .inr ⟨w.heap.size, 0, convCap w s, _, _, by rw [size_list], .inl (Nat.le_refl _), hn, by rw [size_list]; exact hge, grownCap_le_maxLen _ _ _ _ h, by rw [hsz]; omega, .inr (by rw [hsz]; omega), fun j hj => ?_⟩
  have h1 := Lib.bytesWorld_cell w 5 s j (by rw [← size_list]; exact hj)
  rw [cell_of_row _ _ j _ _ _ hn] at h1
  rw [Nat.zero_add]
  exact h1
end Go.Proofs.YtldcoaigecnpfaaDoor
