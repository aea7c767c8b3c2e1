/- Plain words: a text that is written part by part, each character as it stands or by other bytes. Of no program. -/
import Derived.Test.YtldcoaigecnpfaaDoorRunF
namespace Go.Proofs.YtldcoaigecnpfaaDoor
open Go.RowKit
/-- Written: all up to i; passed: all up to n. -/
structure QInv (p : List UInt8 → List UInt8) (m : List UInt8) (n i : Nat) (out : List UInt8) : Prop where
  nl : n ≤ m.length
  il : i ≤ n
  eq : runF p 0 m = out ++ (m.drop i).take (n - i) ++ runF p 0 (m.drop n)
theorem QInv.start (p : List UInt8 → List UInt8) (m : List UInt8) : QInv p m 0 0 [] := ⟨Nat.zero_le _, Nat.le_refl _, by simp⟩
theorem drop_pos {m : List UInt8} {n : Nat} (h : n < m.length) : 0 < (m.drop n).length := by rw [List.length_drop]; omega
theorem slice_more (m : List UInt8) (i n w : Nat) (h : i ≤ n) : (m.drop i).take (n + w - i) = (m.drop i).take (n - i) ++ (m.drop n).take w := by
  have e : n + w - i = (n - i) + w := by omega
  rw [e, List.take_add]
  congr 2
  rw [List.drop_drop]
  congr 1
  omega
theorem QInv.raw {p : List UInt8 → List UInt8} {m : List UInt8} {n i : Nat} {out : List UInt8} (h : QInv p m n i out) (hn : n < m.length) (w : Nat) (hw : decW (m.drop n) = w) (hp : p (m.drop n) = (m.drop n).take w) : QInv p m (n + w) i out := by
  have hr := decW_range (m.drop n) (drop_pos hn)
  rw [hw, List.length_drop] at hr
  refine ⟨by omega, by have := h.il; omega, ?_⟩
  rw [h.eq, runF_step p _ (drop_pos hn), hp, hw, List.drop_drop, slice_more m i n w h.il]
  simp only [List.append_assoc]
theorem QInv.esc {p : List UInt8 → List UInt8} {m : List UInt8} {n i : Nat} {out : List UInt8} (h : QInv p m n i out) (hn : n < m.length) (w : Nat) (E : List UInt8) (hw : decW (m.drop n) = w) (hp : p (m.drop n) = E) : QInv p m (n + w) (n + w) (out ++ (m.drop i).take (n - i) ++ E) := by
  have hr := decW_range (m.drop n) (drop_pos hn)
  rw [hw, List.length_drop] at hr
  refine ⟨by omega, Nat.le_refl _, ?_⟩
  rw [h.eq, runF_step p _ (drop_pos hn), hp, hw, List.drop_drop, Nat.sub_self, List.take_zero, List.append_nil]
  simp only [List.append_assoc]
theorem QInv.fin {p : List UInt8 → List UInt8} {m : List UInt8} {n i : Nat} {out : List UInt8} (h : QInv p m n i out) (hn : n = m.length) : runF p 0 m = out ++ (m.drop i).take (n - i) := by
  have := h.eq
  rw [hn, List.drop_length, runF_nil, List.append_nil] at this
  rw [hn]; exact this
theorem QInv.bound {p : List UInt8 → List UInt8} {m : List UInt8} {n i : Nat} {out : List UInt8} (h : QInv p m n i out) : out.length + (n - i) ≤ (runF p 0 m).length := by
  have h1 := congrArg List.length h.eq
  have h2 := h.nl
  have h3 := h.il
  simp only [List.length_append, List.length_take, List.length_drop] at h1
  omega
/-- Whether all up to n was characters. -/
def CInv (m : List UInt8) (n : Nat) (bad : Bool) : Prop := cleanL m = (!bad && allF goodC 0 (m.drop n))
theorem CInv.start (m : List UInt8) : CInv m 0 false := by unfold CInv cleanL; simp
theorem CInv.good {m : List UInt8} {n : Nat} {bad : Bool} (h : CInv m n bad) (hn : n < m.length) (w : Nat) (hw : decW (m.drop n) = w) (h0 : ¬ rlL (m.drop n) = 0) : CInv m (n + w) bad := by
  unfold CInv at h ⊢
  have : goodC (m.drop n) = true := by unfold goodC; simpa using h0
  rw [h, allF_step _ _ (drop_pos hn), this, Bool.true_and, List.drop_drop, hw]
theorem CInv.bad {m : List UInt8} {n : Nat} {bad : Bool} (h : CInv m n bad) (hn : n < m.length) (h0 : rlL (m.drop n) = 0) : CInv m (n + 1) true := by
  unfold CInv at h ⊢
  have : goodC (m.drop n) = false := by unfold goodC; simpa using h0
  rw [h, allF_step _ _ (drop_pos hn), this]
  simp
theorem CInv.fin {m : List UInt8} {n : Nat} {bad : Bool} (h : CInv m n bad) (hn : n = m.length) : cleanL m = !bad := by
  unfold CInv at h
  rw [hn, List.drop_length, allF_nil, Bool.and_true] at h
  exact h
def htmlC (c : Nat) : Bool := c == 60 || c == 62 || c == 38
/-- The number of one of the two characters that have a meaning in scripts. -/
def jsN (l : List UInt8) : Nat := if natL l 0 = 226 ∧ natL l 1 = 128 ∧ natL l 2 = 168 then 8232 else if natL l 0 = 226 ∧ natL l 1 = 128 ∧ natL l 2 = 169 then 8233 else 0
theorem jsN_or (l : List UInt8) : jsN l = 0 ∨ jsN l = 8232 ∨ jsN l = 8233 := by unfold jsN; (repeat' split) <;> simp
end Go.Proofs.YtldcoaigecnpfaaDoor
