/- The grammar of a value in plain words, of no program: the place behind a value that begins at a place of a text, or 0 (names may come twice; strings may be no UTF-8). -/
import Derived.Test.YtklncgmfbflooaaDoorRdNumber
namespace Go.Proofs.YtklncgmfbflooaaDoor
open Go.RowKit
def nullL : List UInt8 := [110, 117, 108, 108]
def trueL : List UInt8 := [116, 114, 117, 101]
def falseL : List UInt8 := [102, 97, 108, 115, 101]
/-- The place behind a literal, a number or a string, or 0. -/
def scaN (l : List UInt8) (k : Nat) : Nat :=
  if seeP l k = 110 then wordN l nullL k
  else if seeP l k = 116 then wordN l trueL k
  else if seeP l k = 102 then wordN l falseL k
  else if seeP l k = 34 then (if strQ true l k = 0 then 0 else strQ true l k + 1)
  else if seeP l k = 45 ∨ (48 ≤ seeP l k ∧ seeP l k ≤ 57) then numN l k
  else 0
theorem wordN_range {l m : List UInt8} {k : Nat} (hk : k ≤ l.length) (hm : 0 < m.length) (h : ¬ wordN l m k = 0) : k < wordN l m k ∧ wordN l m k ≤ l.length := by
  unfold wordN at h ⊢
  by_cases a : comm (l.drop k) m = m.length
  · rw [if_pos a]
    have := comm_le (l.drop k) m
    rw [List.length_drop] at this
    omega
  · rw [if_neg a] at h; exact absurd rfl h
theorem scaN_range {l : List UInt8} {k : Nat} (hk : k ≤ l.length) (h : ¬ scaN l k = 0) : k < scaN l k ∧ scaN l k ≤ l.length := by
  unfold scaN at h ⊢
  by_cases a : seeP l k = 110
  · rw [if_pos a] at h ⊢; exact wordN_range hk (by decide) h
  · rw [if_neg a] at h ⊢
    by_cases b : seeP l k = 116
    · rw [if_pos b] at h ⊢; exact wordN_range hk (by decide) h
    · rw [if_neg b] at h ⊢
      by_cases c : seeP l k = 102
      · rw [if_pos c] at h ⊢; exact wordN_range hk (by decide) h
      · rw [if_neg c] at h ⊢
        by_cases d : seeP l k = 34
        · rw [if_pos d] at h ⊢
          by_cases e : strQ true l k = 0
          · rw [if_pos e] at h; exact absurd rfl h
          · rw [if_neg e]
            have := strQ_range e
            omega
        · rw [if_neg d] at h ⊢
          by_cases e : seeP l k = 45 ∨ (48 ≤ seeP l k ∧ seeP l k ≤ 57)
          · rw [if_pos e] at h ⊢; exact numN_range h
          · rw [if_neg e] at h; exact absurd rfl h
/-- The place behind what follows an opening mark, where z closes at once; else r of the place at which something begins. -/
def openN (l : List UInt8) (z : Int) (r : Nat → Nat) (k : Nat) : Nat := if seeP l (spN l k) = z then spN l k + 1 else r (spN l k)
/-- .. behind an element that ends at v: z closes, a comma goes on. -/
def nextN (l : List UInt8) (z : Int) (r : Nat → Nat) (v : Nat) : Nat :=
  if v = 0 then 0 else if seeP l (spN l v) = z then spN l v + 1 else if seeP l (spN l v) = 44 then r (spN l v + 1) else 0
/-- The place behind a name and its colon, or 0. -/
def nameN (l : List UInt8) (k : Nat) : Nat := if strQ true l k = 0 then 0 else if seeP l (spN l (strQ true l k + 1)) = 58 then spN l (strQ true l k + 1) + 1 else 0
/-- mode 0: a value; mode 1: the members of an object from a name on; else: the elements of an array. -/
def pF (l : List UInt8) : Nat → Nat → Nat → Nat
  | 0, _, _ => 0
  | n + 1, mode, k =>
    if mode = 0 then
      (if seeP l (spN l k) = 123 then openN l 125 (pF l n 1) (spN l k + 1)
      else if seeP l (spN l k) = 91 then openN l 93 (pF l n 2) (spN l k + 1)
      else scaN l (spN l k))
    else if mode = 1 then
      (if nameN l k = 0 then 0 else nextN l 125 (fun q => pF l n 1 (spN l q)) (pF l n 0 (nameN l k)))
    else nextN l 93 (pF l n 2) (pF l n 0 k)
theorem nameN_range {l : List UInt8} {k : Nat} (h : ¬ nameN l k = 0) : k + 1 < nameN l k ∧ nameN l k ≤ l.length := by
  unfold nameN at h ⊢
  by_cases a : strQ true l k = 0
  · rw [if_pos a] at h; exact absurd rfl h
  · rw [if_neg a] at h ⊢
    by_cases b : seeP l (spN l (strQ true l k + 1)) = 58
    · rw [if_pos b]
      have := strQ_range a
      have := seeP_le b (by decide)
      have := spN_range (l := l) (k := strQ true l k + 1) (by omega)
      omega
    · rw [if_neg b] at h; exact absurd rfl h
theorem openN_range {l : List UInt8} {z : Int} (hz : ¬ z = 0) {r : Nat → Nat} {k : Nat} (hk : k ≤ l.length) (hr : ∀ q, k ≤ q → q ≤ l.length → ¬ r q = 0 → q < r q ∧ r q ≤ l.length) (h : ¬ openN l z r k = 0) : k < openN l z r k ∧ openN l z r k ≤ l.length := by
  have hs := spN_range hk
  unfold openN at h ⊢
  by_cases a : seeP l (spN l k) = z
  · rw [if_pos a]
    have := seeP_le a hz
    omega
  · rw [if_neg a] at h ⊢
    have := hr (spN l k) hs.1 hs.2 h
    omega
theorem nextN_range {l : List UInt8} {z : Int} (hz : ¬ z = 0) {r : Nat → Nat} {v : Nat} (hv : v ≤ l.length) (hr : ∀ q, v < q → q ≤ l.length → ¬ r q = 0 → q < r q ∧ r q ≤ l.length) (h : ¬ nextN l z r v = 0) : v < nextN l z r v ∧ nextN l z r v ≤ l.length := by
  have hs := spN_range hv
  unfold nextN at h ⊢
  by_cases a0 : v = 0
  · rw [if_pos a0] at h; exact absurd rfl h
  · rw [if_neg a0] at h ⊢
    by_cases a : seeP l (spN l v) = z
    · rw [if_pos a]
      have := seeP_le a hz
      omega
    · rw [if_neg a] at h ⊢
      by_cases b : seeP l (spN l v) = 44
      · rw [if_pos b] at h ⊢
        have := seeP_le b (by decide)
        have := hr (spN l v + 1) (by omega) (by omega) h
        omega
      · rw [if_neg b] at h; exact absurd rfl h
theorem pF_range (l : List UInt8) : ∀ (n mode k : Nat), k ≤ l.length → ¬ pF l n mode k = 0 → k < pF l n mode k ∧ pF l n mode k ≤ l.length
  | 0, mode, k, _, h => by rw [pF] at h; exact absurd rfl h
  | n + 1, mode, k, hk, h => by
    have ih := pF_range l n
    have hs := spN_range hk
    rw [pF] at h ⊢
    by_cases m0 : mode = 0
    · rw [if_pos m0] at h ⊢
      by_cases a : seeP l (spN l k) = 123
      · rw [if_pos a] at h ⊢
        have := seeP_le a (by decide)
        have := openN_range (by decide) (by omega) (fun q _ hq => ih 1 q hq) h
        omega
      · rw [if_neg a] at h ⊢
        by_cases b : seeP l (spN l k) = 91
        · rw [if_pos b] at h ⊢
          have := seeP_le b (by decide)
          have := openN_range (by decide) (by omega) (fun q _ hq => ih 2 q hq) h
          omega
        · rw [if_neg b] at h ⊢
          have := scaN_range hs.2 h
          omega
    · rw [if_neg m0] at h ⊢
      by_cases m1 : mode = 1
      · rw [if_pos m1] at h ⊢
        by_cases a : nameN l k = 0
        · rw [if_pos a] at h; exact absurd rfl h
        · rw [if_neg a] at h ⊢
          have hn := nameN_range a
          have hv : ¬ pF l n 0 (nameN l k) = 0 := fun q => h (by rw [q]; rfl)
          have h0 := ih 0 _ hn.2 hv
          have := nextN_range (by decide) h0.2 (fun q hq1 hq2 hq3 => by
            have z := spN_range hq2
            have := ih 1 _ z.2 hq3
            omega) h
          omega
      · rw [if_neg m1] at h ⊢
        have hv : ¬ pF l n 0 k = 0 := fun q => h (by rw [q]; rfl)
        have h0 := ih 0 _ hk hv
        have := nextN_range (by decide) h0.2 (fun q _ hq => ih 2 q hq) h
        omega
theorem openN_congr {l : List UInt8} {z : Int} {r r' : Nat → Nat} {k : Nat} (h : r (spN l k) = r' (spN l k)) : openN l z r k = openN l z r' k := by unfold openN; rw [h]
theorem nextN_congr {l : List UInt8} {z : Int} {r r' : Nat → Nat} {v : Nat} (h : seeP l (spN l v) = 44 → r (spN l v + 1) = r' (spN l v + 1)) : nextN l z r v = nextN l z r' v := by
  unfold nextN
  by_cases a : seeP l (spN l v) = 44
  · rw [h a]
  · rw [if_neg a, if_neg a]
def meas (l : List UInt8) (mode k : Nat) : Nat := 2 * (l.length + 1 - k) + (if mode = 0 ∨ mode = 1 then 0 else 1)
theorem pF_eq (l : List UInt8) : ∀ (n m mode k : Nat), k ≤ l.length → meas l mode k ≤ n → meas l mode k ≤ m → pF l n mode k = pF l m mode k
  | 0, _, mode, k, hk, hn, _ => by unfold meas at hn; omega
  | n + 1, 0, mode, k, hk, _, hm => by unfold meas at hm; omega
  | n + 1, m + 1, mode, k, hk, hn, hm => by
    have ih := pF_eq l n m
    have hs := spN_range hk
    rw [pF, pF]
    by_cases m0 : mode = 0
    · rw [if_pos m0, if_pos m0]
      subst m0
      unfold meas at hn hm
      rw [if_pos (Or.inl rfl)] at hn hm
      by_cases a : seeP l (spN l k) = 123
      · rw [if_pos a, if_pos a]
        have h1 := seeP_le a (by decide)
        have h2 := spN_range (l := l) (k := spN l k + 1) (by omega)
        exact openN_congr (ih 1 _ h2.2 (by unfold meas; rw [if_pos (Or.inr rfl)]; omega) (by unfold meas; rw [if_pos (Or.inr rfl)]; omega))
      · rw [if_neg a, if_neg a]
        by_cases b : seeP l (spN l k) = 91
        · rw [if_pos b, if_pos b]
          have h1 := seeP_le b (by decide)
          have h2 := spN_range (l := l) (k := spN l k + 1) (by omega)
          exact openN_congr (ih 2 _ h2.2 (by unfold meas; rw [if_neg (by decide)]; omega) (by unfold meas; rw [if_neg (by decide)]; omega))
        · rw [if_neg b, if_neg b]
    · rw [if_neg m0, if_neg m0]
      by_cases m1 : mode = 1
      · rw [if_pos m1, if_pos m1]
        subst m1
        unfold meas at hn hm
        rw [if_pos (Or.inr rfl)] at hn hm
        by_cases a : nameN l k = 0
        · rw [if_pos a, if_pos a]
        · rw [if_neg a, if_neg a]
          have hr := nameN_range a
          have e0 := ih 0 (nameN l k) hr.2 (by unfold meas; rw [if_pos (Or.inl rfl)]; omega) (by unfold meas; rw [if_pos (Or.inl rfl)]; omega)
          rw [e0]
          by_cases v0 : pF l m 0 (nameN l k) = 0
          · rw [v0]; rfl
          · have hv := pF_range l m 0 _ hr.2 v0
            have hz := spN_range hv.2
            refine nextN_congr fun q => ?_
            have h1 := seeP_le q (by decide)
            have h2 := spN_range (l := l) (k := spN l (pF l m 0 (nameN l k)) + 1) (by omega)
            exact ih 1 _ h2.2 (by unfold meas; rw [if_pos (Or.inr rfl)]; omega) (by unfold meas; rw [if_pos (Or.inr rfl)]; omega)
      · rw [if_neg m1, if_neg m1]
        unfold meas at hn hm
        rw [if_neg (by omega)] at hn hm
        have e0 := ih 0 k hk (by unfold meas; rw [if_pos (Or.inl rfl)]; omega) (by unfold meas; rw [if_pos (Or.inl rfl)]; omega)
        rw [e0]
        by_cases v0 : pF l m 0 k = 0
        · rw [v0]; rfl
        · have hv := pF_range l m 0 _ hk v0
          have hz := spN_range hv.2
          refine nextN_congr fun q => ?_
          have h1 := seeP_le q (by decide)
          exact ih 2 _ (by omega) (by unfold meas; rw [if_neg (by decide)]; omega) (by unfold meas; rw [if_neg (by decide)]; omega)
/-- The place behind a value, or 0. -/
def pV (l : List UInt8) (k : Nat) : Nat := pF l (meas l 0 k) 0 k
/-- The place behind an object whose next name begins at a place, or 0. -/
def pO (l : List UInt8) (k : Nat) : Nat := pF l (meas l 1 k) 1 k
/-- The place behind an array whose next element begins at a place, or 0. -/
def pA (l : List UInt8) (k : Nat) : Nat := pF l (meas l 2 k) 2 k
theorem pV_range {l : List UInt8} {k : Nat} (hk : k ≤ l.length) (h : ¬ pV l k = 0) : k < pV l k ∧ pV l k ≤ l.length := pF_range l _ 0 k hk h
theorem pO_range {l : List UInt8} {k : Nat} (hk : k ≤ l.length) (h : ¬ pO l k = 0) : k < pO l k ∧ pO l k ≤ l.length := pF_range l _ 1 k hk h
theorem pA_range {l : List UInt8} {k : Nat} (hk : k ≤ l.length) (h : ¬ pA l k = 0) : k < pA l k ∧ pA l k ≤ l.length := pF_range l _ 2 k hk h
theorem pV_eq {l : List UInt8} {k : Nat} (hk : k ≤ l.length) : pV l k = if seeP l (spN l k) = 123 then openN l 125 (pO l) (spN l k + 1) else if seeP l (spN l k) = 91 then openN l 93 (pA l) (spN l k + 1) else scaN l (spN l k) := by
  have hs := spN_range hk
  have e : meas l 0 k = (2 * (l.length + 1 - k) - 1) + 1 := by unfold meas; rw [if_pos (Or.inl rfl)]; omega
  unfold pV
  rw [e, pF, if_pos rfl]
  by_cases a : seeP l (spN l k) = 123
  · rw [if_pos a, if_pos a]
    have h1 := seeP_le a (by decide)
    have h2 := spN_range (l := l) (k := spN l k + 1) (by omega)
    exact openN_congr (pF_eq l _ _ 1 _ h2.2 (by unfold meas; rw [if_pos (Or.inr rfl)]; omega) (Nat.le_refl _))
  · rw [if_neg a, if_neg a]
    by_cases b : seeP l (spN l k) = 91
    · rw [if_pos b, if_pos b]
      have h1 := seeP_le b (by decide)
      have h2 := spN_range (l := l) (k := spN l k + 1) (by omega)
      exact openN_congr (pF_eq l _ _ 2 _ h2.2 (by unfold meas; rw [if_neg (by decide)]; omega) (Nat.le_refl _))
    · rw [if_neg b, if_neg b]
theorem pO_eq {l : List UInt8} {k : Nat} (hk : k ≤ l.length) : pO l k = if nameN l k = 0 then 0 else nextN l 125 (fun q => pO l (spN l q)) (pV l (nameN l k)) := by
  have e : meas l 1 k = (2 * (l.length + 1 - k) - 1) + 1 := by unfold meas; rw [if_pos (Or.inr rfl)]; omega
  unfold pO
  rw [e, pF, if_neg (by decide), if_pos rfl]
  by_cases a : nameN l k = 0
  · rw [if_pos a, if_pos a]
  · rw [if_neg a, if_neg a]
    have hr := nameN_range a
    have e0 := pF_eq l (2 * (l.length + 1 - k) - 1) (meas l 0 (nameN l k)) 0 (nameN l k) hr.2 (by unfold meas; rw [if_pos (Or.inl rfl)]; omega) (Nat.le_refl _)
    rw [e0, show pF l (meas l 0 (nameN l k)) 0 (nameN l k) = pV l (nameN l k) from rfl]
    have hv' := pV_range hr.2
    generalize pV l (nameN l k) = v at hv' ⊢
    clear e0 e
    by_cases v0 : v = 0
    · rw [v0]; rfl
    · have hv := hv' v0
      have hz := spN_range hv.2
      refine nextN_congr fun q => ?_
      have h1 := seeP_le q (by decide)
      have h2 := spN_range (l := l) (k := spN l v + 1) (by omega)
      exact pF_eq l _ _ 1 _ h2.2 (by unfold meas; rw [if_pos (Or.inr rfl)]; omega) (Nat.le_refl _)
theorem pA_eq {l : List UInt8} {k : Nat} (hk : k ≤ l.length) : pA l k = nextN l 93 (pA l) (pV l k) := by
  have e : meas l 2 k = (2 * (l.length + 1 - k)) + 1 := by unfold meas; rw [if_neg (by decide)]
  unfold pA
  rw [e, pF, if_neg (by decide), if_neg (by decide)]
  have e0 := pF_eq l (2 * (l.length + 1 - k)) (meas l 0 k) 0 k hk (by unfold meas; rw [if_pos (Or.inl rfl)]; omega) (Nat.le_refl _)
  rw [e0, show pF l (meas l 0 k) 0 k = pV l k from rfl]
  have hv' := pV_range hk
  generalize pV l k = v at hv' ⊢
  clear e0 e
  by_cases v0 : v = 0
  · rw [v0]; rfl
  · have hv := hv' v0
    have hz := spN_range hv.2
    refine nextN_congr fun q => ?_
    have h1 := seeP_le q (by decide)
    exact pF_eq l _ _ 2 _ (by omega) (by unfold meas; rw [if_neg (by decide)]; omega) (Nat.le_refl _)
/-- Whether a text is one value, with white space around it. -/
def takenB (l : List UInt8) : Bool := decide (¬ pV l 0 = 0 ∧ spN l (pV l 0) = l.length)
end Go.Proofs.YtklncgmfbflooaaDoor
