/- Plain words: a text that is written part by part, each character as it stands or by other bytes. Of no program. slices.Grow at bytes, by the contract of the library's shelf, laid at this program, over bytes that a call appends to. -/
import Derived.Test.YtldcoaigecnpfaaDoorGClose
import Derived.Test.YtldcoaigecnpfaaDoorGBytes
import Derived.Shelf.Spec.SlicesGrow
import Derived.KernelRfl
namespace Go.Proofs.YtldcoaigecnpfaaDoor
open Go.RowKit
/-- Written: all up to i; passed: all up to n. -/
structure QInv (p : List UInt8 → List UInt8) (m : List UInt8) (n i : Nat) (out : List UInt8) : Prop where
  nl : n ≤ m.length
  il : i ≤ n
  eq : runF p 0 m = out ++ (m.drop i).take (n - i) ++ runF p 0 (m.drop n)
theorem QInv.start (p : List UInt8 → List UInt8) (m : List UInt8) : QInv p m 0 0 [] := ⟨Nat.zero_le _, Nat.le_refl _, by simp⟩
theorem drop_pos {m : List UInt8} {n : Nat} (h : n < m.length) : 0 < (m.drop n).length := by rw [List.length_drop]; omega
theorem slice_more (m : List UInt8) (i n w : Nat) (h : i ≤ n) : (m.drop i).take (n + w - i) = (m.drop i).take (n - i) ++ (m.drop n).take w := by
  have e : n + w - i = (n - i) + w := by omega
  rw [e, List.take_add]
  congr 2
  rw [List.drop_drop]
  congr 1
  omega
theorem QInv.raw {p : List UInt8 → List UInt8} {m : List UInt8} {n i : Nat} {out : List UInt8} (h : QInv p m n i out) (hn : n < m.length) (w : Nat) (hw : decW (m.drop n) = w) (hp : p (m.drop n) = (m.drop n).take w) : QInv p m (n + w) i out := by
  have hr := decW_range (m.drop n) (drop_pos hn)
  rw [hw, List.length_drop] at hr
  refine ⟨by omega, by have := h.il; omega, ?_⟩
  rw [h.eq, runF_step p _ (drop_pos hn), hp, hw, List.drop_drop, slice_more m i n w h.il]
  simp only [List.append_assoc]
theorem QInv.esc {p : List UInt8 → List UInt8} {m : List UInt8} {n i : Nat} {out : List UInt8} (h : QInv p m n i out) (hn : n < m.length) (w : Nat) (E : List UInt8) (hw : decW (m.drop n) = w) (hp : p (m.drop n) = E) : QInv p m (n + w) (n + w) (out ++ (m.drop i).take (n - i) ++ E) := by
  have hr := decW_range (m.drop n) (drop_pos hn)
  rw [hw, List.length_drop] at hr
  refine ⟨by omega, Nat.le_refl _, ?_⟩
  rw [h.eq, runF_step p _ (drop_pos hn), hp, hw, List.drop_drop, Nat.sub_self, List.take_zero, List.append_nil]
  simp only [List.append_assoc]
theorem QInv.fin {p : List UInt8 → List UInt8} {m : List UInt8} {n i : Nat} {out : List UInt8} (h : QInv p m n i out) (hn : n = m.length) : runF p 0 m = out ++ (m.drop i).take (n - i) := by
  have := h.eq
  rw [hn, List.drop_length, runF_nil, List.append_nil] at this
  rw [hn]; exact this
theorem QInv.bound {p : List UInt8 → List UInt8} {m : List UInt8} {n i : Nat} {out : List UInt8} (h : QInv p m n i out) : out.length + (n - i) ≤ (runF p 0 m).length := by
  have h1 := congrArg List.length h.eq
  have h2 := h.nl
  have h3 := h.il
  simp only [List.length_append, List.length_take, List.length_drop] at h1
  omega
/-- Whether all up to n was characters. -/
def CInv (m : List UInt8) (n : Nat) (bad : Bool) : Prop := cleanL m = (!bad && allF goodC 0 (m.drop n))
theorem CInv.start (m : List UInt8) : CInv m 0 false := by unfold CInv cleanL; simp
theorem CInv.good {m : List UInt8} {n : Nat} {bad : Bool} (h : CInv m n bad) (hn : n < m.length) (w : Nat) (hw : decW (m.drop n) = w) (h0 : ¬ rlL (m.drop n) = 0) : CInv m (n + w) bad := by
  unfold CInv at h ⊢
  have : goodC (m.drop n) = true := by unfold goodC; simpa using h0
  rw [h, allF_step _ _ (drop_pos hn), this, Bool.true_and, List.drop_drop, hw]
theorem CInv.bad {m : List UInt8} {n : Nat} {bad : Bool} (h : CInv m n bad) (hn : n < m.length) (h0 : rlL (m.drop n) = 0) : CInv m (n + 1) true := by
  unfold CInv at h ⊢
  have : goodC (m.drop n) = false := by unfold goodC; simpa using h0
  rw [h, allF_step _ _ (drop_pos hn), this]
  simp
theorem CInv.fin {m : List UInt8} {n : Nat} {bad : Bool} (h : CInv m n bad) (hn : n = m.length) : cleanL m = !bad := by
  unfold CInv at h
  rw [hn, List.drop_length, allF_nil, Bool.and_true] at h
  exact h
def htmlC (c : Nat) : Bool := c == 60 || c == 62 || c == 38
/-- The number of one of the two characters that have a meaning in scripts. -/
def jsN (l : List UInt8) : Nat := if natL l 0 = 226 ∧ natL l 1 = 128 ∧ natL l 2 = 168 then 8232 else if natL l 0 = 226 ∧ natL l 1 = 128 ∧ natL l 2 = 169 then 8233 else 0
theorem jsN_or (l : List UInt8) : jsN l = 0 ∨ jsN l = 8232 ∨ jsN l = 8233 := by unfold jsN; (repeat' split) <;> simp
end Go.Proofs.YtldcoaigecnpfaaDoor
namespace Go.Proofs.YtldcoaigecnpfaaDoor
open Go.RowKit
def renGrow : Go.Shelf.Ren := ⟨fun | 4 => 67 | n => n, fun | 0 => 0 | 3 => 3 | 4 => 4 | 9 => 9 | 20 => 20 | 22 => 23 | 25 => 5 | n => n, fun | n => n⟩
theorem laysGrow : Go.Proofs.Lays8.n4 Tryd.prog renGrow :=
  { mixed := by kernel_rfl,
    f4 := ⟨Tryd.f67.name, by decide, Tryd.func67.trans (congrArg some (by kernel_rfl))⟩,
    t0 := Tryd.underlying0,
    a0 := Tryd.isAgg0,
    z0 := Tryd.sizeOf0,
    v0 := Tryd.zeroValue0,
    t3 := Tryd.underlying3,
    a3 := Tryd.isAgg3,
    z3 := Tryd.sizeOf3,
    v3 := Tryd.zeroValue3,
    t4 := Tryd.underlying4,
    a4 := Tryd.isAgg4,
    z4 := Tryd.sizeOf4,
    v4 := Tryd.zeroValue4,
    t9 := Tryd.underlying9,
    a9 := Tryd.isAgg9,
    z9 := Tryd.sizeOf9,
    v9 := Tryd.zeroValue9,
    t20 := Tryd.underlying20,
    a20 := Tryd.isAgg20,
    z20 := Tryd.sizeOf20,
    v20 := Tryd.zeroValue20,
    t22 := Tryd.underlying23,
    a22 := Tryd.isAgg23,
    z22 := Tryd.sizeOf23,
    v22 := Tryd.zeroValue23 }
def GrowPost (base : Nat) (G : Option (Nat × Nat)) (l : List UInt8) (w : World) (e : Ending) (w' : World) : Prop := ∃ v', e = .returned v' ∧ Buf w' base G v' l ∧ Fr base G w w'
theorem growBuf (base : Nat) (G : Option (Nat × Nat)) (v : Value) (l : List UInt8) (n : Nat) (w : World) (hB : Buf w base G v l) (hn : l.length + n ≤ 140737488355328) (hbase : base ≤ w.heap.size) (hG : ∀ g o, G = some (g, o) → g < base) :
    Calls Tryd.prog 67 #[v, .int .i64 n] w (GrowPost base G l w) := by
  obtain ⟨i0, hi, hz0, hs0, hb0⟩ := info_parts infoU8
  have e25 : renGrow.t 25 = 5 := rfl
  have hnew : ∀ o : Obj, Fr base G w (w.drew.alloc o) := fun o => ⟨rfl, rfl, rfl, by simp, fun k hk _ => alloc_old w.drew _ k (by show k < w.heap.size; omega), fun g o e j _ => World.cell?_of_block (a := ⟨g, j, none⟩) (alloc_old w.drew _ g (by have := hG g o e; show g < w.heap.size; omega)), fun g o e => .same (alloc_old w.drew _ g (by have := hG g o e; show g < w.heap.size; omega))⟩
  rcases hB with ⟨rfl, rfl⟩ | ⟨g, o, cap, cur, fz, rfl, hgb, hg, hlc, hcm, hoc, hfz, hcells⟩
  · by_cases h0 : n = 0
    · subst h0
      refine (Any8.slices_Grow_room laysGrow none 0 0 0 w (by omega) (by omega) (by omega) (by omega)).mono ?_
      rintro e w' ⟨rfl, rfl⟩
      exact ⟨_, rfl, .inl ⟨rfl, rfl⟩, Fr.refl _ _ _⟩
    · refine (Any8.slices_Grow_grow laysGrow i0 (.int .u8 0) hi hz0 (by omega) none 0 0 n [] w (by omega) (by omega) (by rw [hb0, Nat.mul_one]; simp at hn; omega) (by simp at hn; omega) (by simp) (fun _ => rfl) (by intro a h; cases h)).mono ?_
      rintro e w' ⟨rfl, rfl⟩
      simp only [e25]
      have hge := grownCap_ge w (0 + n) 0 5
      have hmx : grownCap w (0 + n) 0 5 ≤ maxLen := grownCap_le_maxLen _ _ _ _ (by unfold maxLen; simp only [List.length_nil] at hn; omega)
      refine ⟨_, rfl, .inr ⟨w.heap.size, 0, _, _, (0, 0), rfl, .inl hbase, alloc_new w.drew _, Nat.zero_le _, hmx, ?_, .inl (Nat.zero_le _), fun j hj => by simp at hj⟩, hnew _⟩
      have hone : (Value.int IntKind.u8 0).cells.size = 1 := rfl
      show 0 + grownCap w (0 + n) 0 5 ≤ _
      rw [Array.size_append, Array.size_append, size_zeroCells, size_zeroCells, hone]; simp only [List.size_toArray, List.length_nil]; omega
  · by_cases hr : l.length + n ≤ cap
    · refine (Any8.slices_Grow_room laysGrow (some ⟨g, o, none⟩) l.length cap n w hlc (by unfold maxLen at hcm; omega) (by omega) hr).mono ?_
      rintro e w' ⟨rfl, rfl⟩
      exact ⟨_, rfl, .inr ⟨g, o, cap, cur, fz, rfl, hgb, hg, hlc, hcm, hoc, hfz, hcells⟩, Fr.refl _ _ _⟩
    · have hlen : ((cur.toList.drop o).take cap).length = cap := by rw [List.length_take, List.length_drop, Array.length_toList]; omega
      refine (Any8.slices_Grow_grow laysGrow i0 (.int .u8 0) hi hz0 (by omega) (some ⟨g, o, none⟩) l.length cap n ((cur.toList.drop o).take cap) w hlc (by omega) (by rw [hb0, Nat.mul_one]; omega) (by omega) (by rw [hlen, hs0, Nat.mul_one]) (fun h => by cases h) (by
        intro a h j v hv
        cases h
        rw [addr_add, cell_of_row w g (o + j) cur _ fz hg, ← Array.getElem?_toList]
        rw [List.getElem?_take] at hv
        split at hv
        · rw [List.getElem?_drop] at hv; exact hv
        · cases hv)).mono ?_
      rintro e w' ⟨rfl, rfl⟩
      simp only [e25]
      have hge := grownCap_ge w (l.length + n) cap 5
      have hmx : grownCap w (l.length + n) cap 5 ≤ maxLen := grownCap_le_maxLen _ _ _ _ (by unfold maxLen; omega)
      have hone : (Value.int IntKind.u8 0).cells.size = 1 := rfl
      refine ⟨_, rfl, .inr ⟨w.heap.size, 0, _, _, (0, 0), rfl, .inl hbase, alloc_new w.drew _, ?_, hmx, ?_, .inl (Nat.zero_le _), fun j hj => ?_⟩, hnew _⟩
      · show l.length ≤ grownCap w (l.length + n) cap 5
        omega
      · show 0 + grownCap w (l.length + n) cap 5 ≤ _
        rw [Array.size_append, Array.size_append, size_zeroCells, size_zeroCells, hone, List.size_toArray, hlen]; omega
      · rw [Nat.zero_add, Array.append_assoc, Array.getElem?_append_left (by rw [List.size_toArray, hlen]; exact Nat.lt_of_lt_of_le hj hlc), List.getElem?_toArray, List.getElem?_take, if_pos (by omega), List.getElem?_drop, Array.getElem?_toList]
        exact hcells j hj
end Go.Proofs.YtldcoaigecnpfaaDoor
