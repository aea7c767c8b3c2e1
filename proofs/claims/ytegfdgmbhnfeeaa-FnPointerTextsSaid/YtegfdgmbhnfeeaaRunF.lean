/- Plain words: a text taken character by character, each character giving some bytes; joined texts. Of no program. -/
import Derived.Test.YtegfdgmbhnfeeaaUtf
namespace Go.Proofs.Ytegfdgmbhnfeeaa
open Go.RowKit
/-- Character by character (k bytes of a character that has begun are still to be passed). -/
def runF (p : List UInt8 → List UInt8) : Nat → List UInt8 → List UInt8
  | _, [] => []
  | k + 1, _ :: r => runF p k r
  | 0, c :: r => p (c :: r) ++ runF p (decW (c :: r) - 1) r
/-- Whether all characters are such. -/
def allF (p : List UInt8 → Bool) : Nat → List UInt8 → Bool
  | _, [] => true
  | k + 1, _ :: r => allF p k r
  | 0, c :: r => p (c :: r) && allF p (decW (c :: r) - 1) r
theorem runF_nil (p : List UInt8 → List UInt8) (k : Nat) : runF p k [] = [] := by cases k <;> rfl
theorem allF_nil (p : List UInt8 → Bool) (k : Nat) : allF p k [] = true := by cases k <;> rfl
theorem runF_drop (p : List UInt8 → List UInt8) : ∀ (k : Nat) (l : List UInt8), runF p k l = runF p 0 (l.drop k)
  | 0, l => by simp
  | k + 1, [] => by simp [runF_nil]
  | k + 1, c :: r => by rw [runF, runF_drop p k r]; rfl
theorem allF_drop (p : List UInt8 → Bool) : ∀ (k : Nat) (l : List UInt8), allF p k l = allF p 0 (l.drop k)
  | 0, l => by simp
  | k + 1, [] => by simp [allF_nil]
  | k + 1, c :: r => by rw [allF, allF_drop p k r]; rfl
theorem runF_step (p : List UInt8 → List UInt8) (l : List UInt8) (h : 0 < l.length) : runF p 0 l = p l ++ runF p 0 (l.drop (decW l)) := by
  cases l with
  | nil => simp at h
  | cons c r =>
    have hw := decW_range (c :: r) h
    obtain ⟨n, hn⟩ : ∃ n, decW (c :: r) = n + 1 := ⟨decW (c :: r) - 1, by omega⟩
    rw [runF, hn, runF_drop]; rfl
theorem allF_step (p : List UInt8 → Bool) (l : List UInt8) (h : 0 < l.length) : allF p 0 l = (p l && allF p 0 (l.drop (decW l))) := by
  cases l with
  | nil => simp at h
  | cons c r =>
    have hw := decW_range (c :: r) h
    obtain ⟨n, hn⟩ : ∃ n, decW (c :: r) = n + 1 := ⟨decW (c :: r) - 1, by omega⟩
    rw [allF, hn, allF_drop]; rfl
/-- At most k times as long. -/
theorem runF_length (p : List UInt8 → List UInt8) (m : Nat) (hp : ∀ l, 0 < l.length → (p l).length ≤ m * decW l) : ∀ (n : Nat) (l : List UInt8), l.length ≤ n → (runF p 0 l).length ≤ m * l.length
  | _, [], _ => by simp [runF_nil]
  | 0, c :: r, h => by simp at h
  | n + 1, c :: r, h => by
    have hw := decW_range (c :: r) (by simp)
    rw [runF_step p _ (by simp), List.length_append]
    have h1 := hp (c :: r) (by simp)
    have h2 := runF_length p m hp n ((c :: r).drop (decW (c :: r))) (by rw [List.length_drop]; simp only [List.length_cons] at h ⊢; omega)
    rw [List.length_drop] at h2
    have e : m * (c :: r).length = m * decW (c :: r) + m * ((c :: r).length - decW (c :: r)) := by rw [← Nat.mul_add, Nat.add_sub_cancel' hw.2.2]
    omega
/-- Whether the character is one. -/
def goodC (l : List UInt8) : Bool := decide (rlL l ≠ 0)
/-- What stands for what is no character. -/
def BR : List UInt8 := [239, 191, 189]
def mendC (l : List UInt8) : List UInt8 := if rlL l = 0 then BR else l.take (decW l)
def mendL (l : List UInt8) : List UInt8 := runF mendC 0 l
def cleanL (l : List UInt8) : Bool := allF goodC 0 l
theorem take_app (l r : List UInt8) (k j : Nat) (h : j < k) (hk : k ≤ l.length) : natL (l.take k ++ r) j = natL l j := by
  unfold natL
  rw [List.getD_eq_getElem?_getD, List.getD_eq_getElem?_getD, List.getElem?_append_left (by rw [List.length_take]; omega), List.getElem?_take, if_pos h]
/-- A character is known by its own bytes. -/
theorem rlL_local (l r : List UInt8) (h : 0 < l.length) (h0 : ¬ rlL l = 0) : rlL (l.take (decW l) ++ r) = rlL l := by
  have hw := decW_range l h
  have hd : (decW l : Int) = rlL l := by unfold decW; rw [if_neg h0]; have := rlL_range l h; omega
  have e : ∀ j, j < decW l → atL (l.take (decW l) ++ r) j = atL l j := fun j hj => by
    rw [natL_at, natL_at, take_app l r _ j hj hw.2.2]
  have hlen : (l.take (decW l) ++ r).length = decW l + r.length := by rw [List.length_append, List.length_take]; omega
  have e0 := e 0 (by omega)
  have hn : ((l.take (decW l) ++ r).length : Int) = decW l + r.length := by rw [hlen]; simp
  have hr1 := atL_range l 1
  have hr2 := atL_range l 2
  have hr3 := atL_range l 3
  have q : decW l = 1 ∨ decW l = 2 ∨ decW l = 3 ∨ decW l = 4 := by omega
  have hx : rlL l = rl l.length (atL l 0) (atL l 1) (atL l 2) (atL l 3) := rfl
  have hy : rlL (l.take (decW l) ++ r) = rl (l.take (decW l) ++ r).length (atL (l.take (decW l) ++ r) 0) (atL (l.take (decW l) ++ r) 1) (atL (l.take (decW l) ++ r) 2) (atL (l.take (decW l) ++ r) 3) := rfl
  rw [hy, hn, e0]
  rw [hx] at hd h0 ⊢
  rcases q with q | q | q | q
  · generalize atL (l.take (decW l) ++ r) 1 = x1
    generalize atL (l.take (decW l) ++ r) 2 = x2
    generalize atL (l.take (decW l) ++ r) 3 = x3
    rw [q] at hd ⊢
    clear hx hy e e0 hn hlen
    unfold rl at hd h0 ⊢
    ((repeat' split at hd) <;> (repeat' split) <;> omega)
  · rw [e 1 (by omega)]
    generalize atL (l.take (decW l) ++ r) 2 = x2
    generalize atL (l.take (decW l) ++ r) 3 = x3
    rw [q] at hd ⊢
    clear hx hy e e0 hn hlen
    unfold rl at hd h0 ⊢
    ((repeat' split at hd) <;> (repeat' split) <;> omega)
  · rw [e 1 (by omega), e 2 (by omega)]
    generalize atL (l.take (decW l) ++ r) 3 = x3
    rw [q] at hd ⊢
    clear hx hy e e0 hn hlen
    unfold rl at hd h0 ⊢
    ((repeat' split at hd) <;> (repeat' split) <;> omega)
  · rw [e 1 (by omega), e 2 (by omega), e 3 (by omega)]
    rw [q] at hd ⊢
    clear hx hy e e0 hn hlen
    unfold rl at hd h0 ⊢
    ((repeat' split at hd) <;> (repeat' split) <;> omega)
theorem decW_local (l r : List UInt8) (h : 0 < l.length) (h0 : ¬ rlL l = 0) : decW (l.take (decW l) ++ r) = decW l := by
  have e := rlL_local l r h h0
  show (if rlL (l.take (decW l) ++ r) = 0 then 1 else (rlL (l.take (decW l) ++ r)).toNat) = decW l
  rw [e]; rfl
theorem rlL_BR (r : List UInt8) : rlL (BR ++ r) = 3 := by
  have h0 : atL (BR ++ r) 0 = 239 := rfl
  have h1 : atL (BR ++ r) 1 = 191 := rfl
  have h2 : atL (BR ++ r) 2 = 189 := rfl
  have hl : ((BR ++ r).length : Int) = r.length + 3 := by simp [BR]; omega
  unfold rlL
  rw [h0, h1, h2, hl]
  generalize atL (BR ++ r) 3 = x
  unfold rl
  (repeat' split) <;> omega
theorem decW_BR (r : List UInt8) : decW (BR ++ r) = 3 := by unfold decW; rw [rlL_BR]; rfl
/-- What takes each character by its own bytes alone takes a mended text as it takes the text. -/
theorem runF_mend (p : List UInt8 → List UInt8) (hp : ∀ l r, 0 < l.length → ¬ rlL l = 0 → p (l.take (decW l) ++ r) = p l) (hb : ∀ l r, 0 < l.length → rlL l = 0 → p (BR ++ r) = p l) (n : Nat) :
    ∀ l : List UInt8, l.length ≤ n → runF p 0 (mendL l) = runF p 0 l := by
  induction n with
  | zero =>
    intro l h
    obtain rfl : l = [] := List.eq_nil_of_length_eq_zero (by omega)
    rfl
  | succ n ih =>
    intro l h
    by_cases hlen : 0 < l.length
    · have hw := decW_range l hlen
      have ih' := ih (l.drop (decW l)) (by rw [List.length_drop]; omega)
      have e : mendL l = mendC l ++ mendL (l.drop (decW l)) := runF_step _ _ hlen
      rw [e, runF_step p l hlen]
      by_cases h0 : rlL l = 0
      · have em : mendC l = BR := by unfold mendC; rw [if_pos h0]
        have ed : ∀ X : List UInt8, (BR ++ X).drop 3 = X := fun _ => rfl
        rw [em, runF_step p _ (by rw [List.length_append]; show 0 < 3 + _; omega), decW_BR, hb l _ hlen h0, ed, ih']
      · have em : mendC l = l.take (decW l) := by unfold mendC; rw [if_neg h0]
        have hl2 : (l.take (decW l)).length = decW l := by rw [List.length_take]; omega
        rw [em, runF_step p _ (by rw [List.length_append, hl2]; omega), decW_local l _ hlen h0, hp l _ hlen h0, List.drop_append, hl2, Nat.sub_self, List.drop_zero, List.drop_of_length_le (by omega), List.nil_append, ih']
    · obtain rfl : l = [] := List.eq_nil_of_length_eq_zero (by omega)
      rfl
theorem cleanL_step (l : List UInt8) (hlen : 0 < l.length) (hc : cleanL l = true) : ¬ rlL l = 0 ∧ cleanL (l.drop (decW l)) = true := by
  have ec : cleanL l = (goodC l && cleanL (l.drop (decW l))) := allF_step _ _ hlen
  rw [ec, Bool.and_eq_true] at hc
  exact ⟨by have := hc.1; unfold goodC at this; simpa using this, hc.2⟩
theorem rlL_app (l b : List UInt8) (hlen : 0 < l.length) (h0 : ¬ rlL l = 0) : rlL (l ++ b) = rlL l ∧ decW (l ++ b) = decW l := by
  have e1 : rlL (l ++ b) = rlL l := by
    have := rlL_local l (l.drop (decW l) ++ b) hlen h0
    rwa [← List.append_assoc, List.take_append_drop] at this
  refine ⟨e1, ?_⟩
  show (if rlL (l ++ b) = 0 then 1 else (rlL (l ++ b)).toNat) = decW l
  rw [e1]; rfl
/-- A text of characters alone ahead of another text. -/
theorem runF_join (p : List UInt8 → List UInt8) (hp : ∀ l r, 0 < l.length → ¬ rlL l = 0 → p (l ++ r) = p l) (b : List UInt8) (n : Nat) :
    ∀ a : List UInt8, a.length ≤ n → cleanL a = true → runF p 0 (a ++ b) = runF p 0 a ++ runF p 0 b := by
  induction n with
  | zero =>
    intro l h _
    obtain rfl : l = [] := List.eq_nil_of_length_eq_zero (by omega)
    rw [runF_nil, List.nil_append, List.nil_append]
  | succ n ih =>
    intro l h hc
    by_cases hlen : 0 < l.length
    · have hw := decW_range l hlen
      obtain ⟨h0, hc'⟩ := cleanL_step l hlen hc
      have ih' := ih (l.drop (decW l)) (by rw [List.length_drop]; omega) hc'
      rw [runF_step p (l ++ b) (by rw [List.length_append]; omega), runF_step p l hlen, (rlL_app l b hlen h0).2, hp l b hlen h0, List.drop_append_of_le_length (by omega), ih', List.append_assoc]
    · obtain rfl : l = [] := List.eq_nil_of_length_eq_zero (by omega)
      rw [runF_nil, List.nil_append, List.nil_append]
theorem mend_clean (n : Nat) : ∀ l : List UInt8, l.length ≤ n → cleanL l = true → mendL l = l := by
  induction n with
  | zero =>
    intro l h _
    obtain rfl : l = [] := List.eq_nil_of_length_eq_zero (by omega)
    rfl
  | succ n ih =>
    intro l h hc
    by_cases hlen : 0 < l.length
    · have hw := decW_range l hlen
      obtain ⟨h0, hc'⟩ := cleanL_step l hlen hc
      have ih' := ih (l.drop (decW l)) (by rw [List.length_drop]; omega) hc'
      have e : mendL l = mendC l ++ mendL (l.drop (decW l)) := runF_step _ _ hlen
      rw [e, ih', mendC, if_neg h0, List.take_append_drop]
    · obtain rfl : l = [] := List.eq_nil_of_length_eq_zero (by omega)
      rfl
theorem natL_drop (m : List UInt8) (k j : Nat) : natL (m.drop k) j = natL m (k + j) := by
  unfold natL; rw [List.getD_eq_getElem?_getD, List.getD_eq_getElem?_getD, List.getElem?_drop]
theorem decW_ascii (l : List UInt8) (h : natL l 0 < 128) : rlL l = 1 ∧ decW l = 1 := by
  have e : rlL l = 1 := by
    unfold rlL rl
    rw [if_pos (by rw [natL_at]; omega)]
  exact ⟨e, by unfold decW; rw [e]; rfl⟩
end Go.Proofs.Ytegfdgmbhnfeeaa
