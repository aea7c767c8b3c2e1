/- Plain words: a text without the five characters; what is quoted for HTML is such. Of no program. -/
import Derived.Test.YtklncgmfbflooaaDoorOldQP
import Derived.Test.YtklncgmfbflooaaDoorKeptP
namespace Go.Proofs.YtklncgmfbflooaaDoor
open Go.RowKit
/-- None of the five characters begins here. -/
def headOk (l : List UInt8) : Bool := !htmlC (natL l 0) && decide (jsN l = 0)
def safeL : List UInt8 → Bool
  | [] => true
  | c :: r => headOk (c :: r) && safeL r
theorem safe_at : ∀ (l : List UInt8), safeL l = true → ∀ k, k < l.length → headOk (l.drop k) = true
  | [], _, k, hk => by simp at hk
  | c :: r, h, 0, _ => by rw [safeL, Bool.and_eq_true] at h; exact h.1
  | c :: r, h, k + 1, hk => by
    rw [safeL, Bool.and_eq_true] at h
    exact safe_at r h.2 k (by simpa using hk)
/-- What begins with bytes at which none begins. -/
theorem safe_app : ∀ (P X : List UInt8), (∀ i, i < P.length → headOk ((P ++ X).drop i) = true) → safeL (P ++ X) = safeL X
  | [], _, _ => rfl
  | c :: r, X, h => by
    have h0 := h 0 (by simp)
    have e : safeL ((c :: r) ++ X) = (headOk ((c :: r) ++ X) && safeL (r ++ X)) := rfl
    rw [List.drop_zero] at h0
    rw [e, h0, Bool.true_and]
    exact safe_app r X fun i hi => h (i + 1) (by simpa using hi)
theorem headOk_low (l : List UInt8) (h : natL l 0 < 128) (h1 : htmlC (natL l 0) = false) : headOk l = true := by
  have : jsN l = 0 := by unfold jsN; rw [if_neg (by omega), if_neg (by omega)]
  unfold headOk; rw [h1, this]; rfl
theorem headOk_mid (l : List UInt8) (h : 128 ≤ natL l 0) (h1 : ¬ natL l 0 = 226) : headOk l = true := by
  have e1 : htmlC (natL l 0) = false := by unfold htmlC; simp; omega
  have : jsN l = 0 := by unfold jsN; rw [if_neg (by omega), if_neg (by omega)]
  unfold headOk; rw [e1, this]; rfl
theorem natL_app (P X : List UInt8) (j : Nat) (h : j < P.length) : natL (P ++ X) j = natL P j := by
  unfold natL; rw [List.getD_eq_getElem?_getD, List.getD_eq_getElem?_getD, List.getElem?_append_left h]
/-- Bytes of ASCII, none of the three. -/
def plainAscii (P : List UInt8) : Bool := P.all fun c => decide (c.toNat < 128) && !htmlC c.toNat
theorem safe_ascii (P X : List UInt8) (h : plainAscii P = true) : safeL (P ++ X) = safeL X := by
  refine safe_app P X fun i hi => ?_
  have hn : natL ((P ++ X).drop i) 0 = P[i].toNat := by
    rw [natL_drop, Nat.add_zero, natL_app P X i hi]
    unfold natL; rw [List.getD_eq_getElem?_getD, List.getElem?_eq_getElem hi]; rfl
  have hp := List.all_eq_true.1 h P[i] (List.getElem_mem hi)
  rw [Bool.and_eq_true, decide_eq_true_eq, Bool.not_eq_true'] at hp
  exact headOk_low _ (by rw [hn]; exact hp.1) (by rw [hn]; exact hp.2)
theorem oesc_ascii : ∀ c : Fin 128, plainAscii (oesc c.val) = true := by decide +kernel
theorem safeT_html (c : Nat) (h : safeT c = true) : htmlC c = false := by
  unfold safeT at h; unfold htmlC
  simp only [Bool.and_eq_true, Bool.not_eq_true', Bool.or_eq_false_iff, beq_eq_false_iff_ne, decide_eq_true_eq] at h ⊢
  omega
set_option maxRecDepth 10000 in
theorem opiece_safe (l X : List UInt8) (hl : 0 < l.length) : safeL (opiece l ++ X) = safeL X := by
  have hw := decW_range l hl
  by_cases hlo : natL l 0 < 128
  · by_cases hs : safeT (natL l 0) = true
    · rw [opiece_plain l hlo hs]
      refine safe_ascii _ _ ?_
      obtain ⟨c, r, rfl⟩ := List.exists_cons_of_length_pos hl
      have e : natL (c :: r) 0 = c.toNat := rfl
      rw [e] at hlo hs
      show (decide (c.toNat < 128) && !htmlC c.toNat && true) = true
      rw [safeT_html _ hs, decide_eq_true hlo]; rfl
    · rw [opiece_esc l hlo (by simpa using hs)]
      exact safe_ascii _ _ (oesc_ascii ⟨_, hlo⟩)
  · by_cases h0 : rlL l = 0
    · rw [opiece_bad l hlo h0]
      exact safe_ascii _ _ (by decide)
    · by_cases hj : jsN l = 0
      · rw [opiece_wide l hlo h0 hj]
        refine safe_app _ _ fun i hi => ?_
        rw [List.length_take] at hi
        have hi' : i < decW l := by omega
        have hn : ∀ j, i + j < decW l → natL ((l.take (decW l) ++ X).drop i) j = natL l (i + j) := fun j hj => by
          rw [natL_drop, take_app l X _ _ hj hw.2.2]
        have hn0 := hn 0 (by omega)
        rw [Nat.add_zero] at hn0
        match i, hi' with
        | 0, _ =>
          rw [List.drop_zero] at hn0 ⊢
          by_cases h226 : natL l 0 = 226
          · have hd3 : decW l = 3 := by
              have hd : (decW l : Int) = rlL l := by unfold decW; rw [if_neg h0]; have := rlL_range l hl; omega
              have hx : rlL l = rl l.length (atL l 0) (atL l 1) (atL l 2) (atL l 3) := rfl
              rw [hx] at hd h0
              have a0 : atL l 0 = 226 := by rw [natL_at]; omega
              rw [a0] at hd h0
              unfold rl at hd h0
              (repeat' split at hd) <;> omega
            have e1 : htmlC (natL (l.take (decW l) ++ X) 0) = false := by rw [hn0, h226]; rfl
            have e2 : jsN (l.take (decW l) ++ X) = 0 := by
              have q1 := hn 1 (by omega)
              have q2 := hn 2 (by omega)
              rw [List.drop_zero, Nat.zero_add] at q1 q2
              have : jsN (l.take (decW l) ++ X) = jsN l := by unfold jsN; rw [hn0, q1, q2]
              rw [this, hj]
            unfold headOk; rw [e1, e2]; rfl
          · exact headOk_mid _ (by rw [hn0]; omega) (by rw [hn0]; exact h226)
        | i + 1, hi2 =>
          have := cont_high l hl i hi2
          exact headOk_mid _ (by rw [hn0]; exact this.1) (by rw [hn0]; exact this.2)
      · rw [opiece_js l hlo h0 hj]
        refine safe_ascii _ _ ?_
        rcases jsN_or l with h | h | h
        · exact absurd h hj
        · rw [h]; decide
        · rw [h]; decide
theorem safe_run (X : List UInt8) (n : Nat) : ∀ l : List UInt8, l.length ≤ n → safeL (runF opiece 0 l ++ X) = safeL X := by
  induction n with
  | zero =>
    intro l h
    obtain rfl : l = [] := List.eq_nil_of_length_eq_zero (by omega)
    rfl
  | succ n ih =>
    intro l h
    by_cases hl : 0 < l.length
    · have hw := decW_range l hl
      rw [runF_step opiece l hl, List.append_assoc, opiece_safe l _ hl]
      exact ih _ (by rw [List.length_drop]; omega)
    · obtain rfl : l = [] := List.eq_nil_of_length_eq_zero (by omega)
      rfl
/-- The text that the old package makes of a string. -/
def oquote (l : List UInt8) : List UInt8 := [34] ++ runF opiece 0 l ++ [34]
theorem oquote_safe (l : List UInt8) : safeL (oquote l) = true := by
  unfold oquote
  rw [List.append_assoc, safe_ascii [34] _ (by decide), safe_run _ l.length l (Nat.le_refl _)]
  decide
theorem oquote_length (l : List UInt8) : 2 ≤ (oquote l).length ∧ (oquote l).length ≤ 6 * l.length + 2 := by
  have h := runF_length opiece 6 (fun l hl => opiece_length l hl) l.length l (Nat.le_refl _)
  unfold oquote
  simp only [List.length_append, List.length_cons, List.length_nil]
  omega
theorem escF_safe : ∀ (l : List UInt8), safeL l = true → escF 0 l = l
  | [], _ => rfl
  | c :: r, h => by
    have hs := h
    rw [safeL, Bool.and_eq_true] at h
    have h1 := h.1
    unfold headOk at h1
    rw [Bool.and_eq_true, Bool.not_eq_true', decide_eq_true_eq] at h1
    obtain ⟨hh, hj⟩ := h1
    have hc : natL (c :: r) 0 = c.toNat := rfl
    rw [hc] at hh
    have n60 : ¬ c = 60 := fun e => by rw [e] at hh; exact absurd hh (by decide)
    have n62 : ¬ c = 62 := fun e => by rw [e] at hh; exact absurd hh (by decide)
    have n38 : ¬ c = 38 := fun e => by rw [e] at hh; exact absurd hh (by decide)
    have n8 : ¬ (c = 226 ∧ r.take 2 = [128, 168]) := fun ⟨e, q⟩ => by
      obtain ⟨q0, q1, q2⟩ := (take2 r 128 168).1 q
      unfold jsN at hj
      rw [if_pos ⟨by rw [hc, e]; rfl, q0, q1⟩] at hj
      omega
    have n9 : ¬ (c = 226 ∧ r.take 2 = [128, 169]) := fun ⟨e, q⟩ => by
      obtain ⟨q0, q1, q2⟩ := (take2 r 128 169).1 q
      unfold jsN at hj
      rw [if_neg (fun z => by have := z.2.2; have e2 : natL (c :: r) 2 = 169 := q1; omega), if_pos ⟨by rw [hc, e]; rfl, q0, q1⟩] at hj
      omega
    rw [escF, if_neg n60, if_neg n62, if_neg n38, if_neg n8, if_neg n9, escF_safe r h.2]
end Go.Proofs.YtklncgmfbflooaaDoor
