/- The old scanner's machine takes just the texts of the grammar: in plain words, of no program. -/
import Derived.Test.YtklncgmfbflooaaDoorScanM
namespace Go.Proofs.YtklncgmfbflooaaDoor
open Go.RowKit
/-- Behind a value that ends at a place. -/
def accE (l : List UInt8) (st : List Int) (k : Nat) : Bool := goM l ⟨.EV, st, false, false⟩ k
def resM (l : List UInt8) (st : List Int) (v : Nat) : Bool := if v = 0 then false else accE l st v
theorem resM_pos {l : List UInt8} {st : List Int} {v : Nat} (h : 0 < v) : resM l st v = accE l st v := by unfold resM; rw [if_neg (by omega)]
theorem endValM_q (a b : Q) (st : List Int) (t e : Bool) (c : Int) : endValM ⟨a, st, t, e⟩ c = endValM ⟨b, st, t, e⟩ c := by
  unfold endValM
  cases st with
  | nil => rfl
  | cons p r =>
    simp only [Cfg.to, errM, Cfg.fault]
    have hp : popM ⟨a, p :: r, t, e⟩ = popM ⟨b, p :: r, t, e⟩ := by unfold popM; cases r <;> rfl
    rw [hp]
theorem et_ev (l : List UInt8) (k : Nat) : goM l ⟨.ET, [], true, false⟩ k = accE l [] k := by
  unfold accE
  by_cases h : k < l.length
  · rw [goM_at h, goM_at h]; rfl
  · rw [goM_end h, goM_end h]; rfl
theorem pop_ev (l : List UInt8) (p : Int) (st : List Int) (q : Q) (k : Nat) : goM l (popM ⟨q, p :: st, false, false⟩) k = accE l st k := by
  cases st with
  | nil => exact et_ev l k
  | cons a r => rfl
/-- A state that does with a byte what follows a value. -/
theorem end_like {l : List UInt8} {g : Q} {st : List Int} {k : Nat} (h1 : k < l.length → stepM g ⟨g, st, false, false⟩ (atL l k) = endValM ⟨g, st, false, false⟩ (atL l k)) (h2 : stepM g ⟨g, st, false, false⟩ 32 = endValM ⟨g, st, false, false⟩ 32) : goM l ⟨g, st, false, false⟩ k = accE l st k := by
  unfold accE
  by_cases h : k < l.length
  · rw [goM_at h, goM_at h]
    have e : stepM g ⟨g, st, false, false⟩ (atL l k) = stepM .EV ⟨.EV, st, false, false⟩ (atL l k) := (h1 h).trans (endValM_q _ _ _ _ _ _)
    show (if (stepM g ⟨g, st, false, false⟩ (atL l k)).2 = 11 then false else goM l (stepM g ⟨g, st, false, false⟩ (atL l k)).1 (k + 1)) = if (stepM .EV ⟨.EV, st, false, false⟩ (atL l k)).2 = 11 then false else goM l (stepM .EV ⟨.EV, st, false, false⟩ (atL l k)).1 (k + 1)
    rw [e]
  · rw [goM_end h, goM_end h]
    have e : stepM g ⟨g, st, false, false⟩ 32 = stepM .EV ⟨.EV, st, false, false⟩ 32 := h2.trans (endValM_q _ _ _ _ _ _)
    show (stepM g ⟨g, st, false, false⟩ 32).1.top = (stepM .EV ⟨.EV, st, false, false⟩ 32).1.top
    rw [e]
/-- A digit, by both words. -/
theorem isDigB_iff (c : Int) : isDigB c = true ↔ digB c := by unfold isDigB digB; simp
/-- A state that stays where a digit comes. -/
theorem dig_loop {l : List UInt8} {g : Q} {st : List Int} (hg : ∀ c, digB c → stepM g ⟨g, st, false, false⟩ c = (⟨g, st, false, false⟩, 0)) : ∀ (n k : Nat), l.length ≤ n + k → goM l ⟨g, st, false, false⟩ k = goM l ⟨g, st, false, false⟩ (dgN l k)
  | 0, k, hn => by rw [show dgN l k = k from skN_at (fun z => by have := z.1; omega)]
  | n + 1, k, hn => by
    by_cases h : k < l.length ∧ isDigB (atL l k) = true
    · have e : dgN l k = dgN l (k + 1) := skN_step h.1 h.2
      rw [e, ← dig_loop hg n (k + 1) (by omega)]
      exact goM_go h.1 (hg _ ((isDigB_iff _).1 h.2)) (by decide)
    · rw [show dgN l k = k from skN_at h]
theorem dg_not {l : List UInt8} : ∀ (n k : Nat), l.length ≤ n + k → dgN l k < l.length → ¬ digB (atL l (dgN l k))
  | 0, k, hn, h => by
    have e : dgN l k = k := skN_at (fun z => by have := z.1; omega)
    rw [e] at h; omega
  | n + 1, k, hn, h => by
    by_cases q : k < l.length ∧ isDigB (atL l k) = true
    · have e : dgN l k = dgN l (k + 1) := skN_step q.1 q.2
      rw [e] at h ⊢
      exact dg_not n (k + 1) (by omega) h
    · have e : dgN l k = k := skN_at q
      rw [e] at h ⊢
      exact fun z => q ⟨h, (isDigB_iff _).2 z⟩
theorem e0_l (l : List UInt8) (st : List Int) (k : Nat) : goM l ⟨.E0, st, false, false⟩ k = accE l st (dgN l k) := by
  rw [dig_loop (fun c h => by simp only [stepM]; rw [if_pos h]) l.length k (by omega)]
  exact end_like (fun h => by simp only [stepM]; rw [if_neg (dg_not l.length k (by omega) h)]) rfl
theorem digP_yes {l : List UInt8} {k : Nat} (hk : k < l.length) (h : digB (atL l k)) : digP l k = dgN l (k + 1) := by
  unfold digP; rw [seeP_at hk, if_pos ((isDigB_iff _).2 h)]
theorem digP_no {l : List UInt8} {k : Nat} (h : k < l.length → ¬ digB (atL l k)) : digP l k = 0 := by
  unfold digP
  by_cases hk : k < l.length
  · rw [seeP_at hk, if_neg (fun z => h hk ((isDigB_iff _).1 z))]
  · rw [if_neg]
    unfold seeP; rw [if_neg hk]; decide
theorem dgN_pos {l : List UInt8} {k : Nat} (hk : k < l.length) : 0 < dgN l (k + 1) := by have := dgN_range (l := l) (k := k + 1) (by omega); omega
theorem es_l (l : List UInt8) (st : List Int) (k : Nat) : goM l ⟨.ESign, st, false, false⟩ k = resM l st (digP l k) := by
  by_cases hk : k < l.length
  · by_cases h : digB (atL l k)
    · rw [digP_yes hk h, resM_pos (dgN_pos hk), ← e0_l]
      exact goM_go hk (by simp only [stepM, esM]; rw [if_pos h]; rfl) (by decide)
    · rw [digP_no (fun _ => h)]
      exact goM_no hk (by simp only [stepM, esM]; rw [if_neg h]; rfl)
  · rw [digP_no (fun z => absurd z hk), goM_end hk]; rfl
theorem e_l (l : List UInt8) (st : List Int) (k : Nat) : goM l ⟨.E, st, false, false⟩ k = resM l st (nExpS l k) := by
  by_cases hk : k < l.length
  · unfold nExpS
    rw [seeP_at hk]
    by_cases h : atL l k = 43 ∨ atL l k = 45
    · rw [if_pos h, ← es_l]
      exact goM_go hk (by simp only [stepM]; rw [if_pos h]; rfl) (by decide)
    · rw [if_neg h, ← es_l, goM_at hk, goM_at hk]
      have e : stepM .E ⟨.E, st, false, false⟩ (atL l k) = stepM .ESign ⟨.ESign, st, false, false⟩ (atL l k) := by
        simp only [stepM]; rw [if_neg h]; unfold esM; split <;> rfl
      show (if (stepM .E ⟨.E, st, false, false⟩ (atL l k)).2 = 11 then false else goM l (stepM .E ⟨.E, st, false, false⟩ (atL l k)).1 (k + 1)) = if (stepM .ESign ⟨.ESign, st, false, false⟩ (atL l k)).2 = 11 then false else goM l (stepM .ESign ⟨.ESign, st, false, false⟩ (atL l k)).1 (k + 1)
      rw [e]
  · have e : nExpS l k = 0 := by
      unfold nExpS
      have : seeP l k = 0 := by unfold seeP; rw [if_neg hk]
      rw [this, if_neg (by decide)]
      exact digP_no (fun z => absurd z hk)
    rw [e, goM_end hk]; rfl
/-- Behind digits: an exponent, or what follows a value. -/
theorem exp_l {l : List UInt8} {g : Q} {st : List Int} {k : Nat} (hk0 : 0 < k) (h1 : ∀ c, c = 101 ∨ c = 69 → stepM g ⟨g, st, false, false⟩ c = (⟨.E, st, false, false⟩, 0)) (h2 : k < l.length → ¬ (atL l k = 101 ∨ atL l k = 69) → stepM g ⟨g, st, false, false⟩ (atL l k) = endValM ⟨g, st, false, false⟩ (atL l k)) (h3 : stepM g ⟨g, st, false, false⟩ 32 = endValM ⟨g, st, false, false⟩ 32) :
    goM l ⟨g, st, false, false⟩ k = resM l st (nExp l k) := by
  unfold nExp
  by_cases hk : k < l.length
  · rw [seeP_at hk]
    by_cases h : atL l k = 101 ∨ atL l k = 69
    · rw [if_pos h, ← e_l]
      exact goM_go hk (h1 _ h) (by decide)
    · rw [if_neg h, resM_pos hk0]
      exact end_like (fun z => h2 z h) h3
  · have : seeP l k = 0 := by unfold seeP; rw [if_neg hk]
    rw [this, if_neg (by decide), resM_pos hk0]
    exact end_like (fun z => absurd z hk) h3
theorem dot0_l (l : List UInt8) (st : List Int) (k : Nat) (hk0 : 0 < k) (hk : k ≤ l.length) : goM l ⟨.Dot0, st, false, false⟩ k = resM l st (nExp l (dgN l k)) := by
  rw [dig_loop (fun c h => by simp only [stepM]; rw [if_pos h]) l.length k (by omega)]
  have hr := dgN_range hk
  refine exp_l (by omega) (fun c h => ?_) (fun z h => ?_) rfl
  · simp only [stepM]
    rw [if_neg (by unfold digB; omega), if_pos h]; rfl
  · simp only [stepM]
    rw [if_neg (dg_not l.length k (by omega) z), if_neg h]
theorem dot_l (l : List UInt8) (st : List Int) (k : Nat) : goM l ⟨.Dot, st, false, false⟩ k = resM l st (if digP l k = 0 then 0 else nExp l (digP l k)) := by
  by_cases hk : k < l.length
  · by_cases h : digB (atL l k)
    · have := dgN_pos hk
      rw [digP_yes hk h, if_neg (by omega), ← dot0_l l st (k + 1) (by omega) hk]
      exact goM_go hk (by simp only [stepM]; rw [if_pos h]; rfl) (by decide)
    · rw [digP_no (fun _ => h), if_pos rfl]
      exact goM_no hk (by simp only [stepM]; rw [if_neg h]; rfl)
  · rw [digP_no (fun z => absurd z hk), if_pos rfl, goM_end hk]; rfl
/-- Behind the whole part: a point, an exponent, or what follows a value. -/
theorem frac_l {l : List UInt8} {g : Q} {st : List Int} {k : Nat} (hk0 : 0 < k) (h0 : stepM g ⟨g, st, false, false⟩ 46 = (⟨.Dot, st, false, false⟩, 0)) (h1 : ∀ c, c = 101 ∨ c = 69 → stepM g ⟨g, st, false, false⟩ c = (⟨.E, st, false, false⟩, 0))
    (h2 : k < l.length → ¬ atL l k = 46 → ¬ (atL l k = 101 ∨ atL l k = 69) → stepM g ⟨g, st, false, false⟩ (atL l k) = endValM ⟨g, st, false, false⟩ (atL l k)) (h3 : stepM g ⟨g, st, false, false⟩ 32 = endValM ⟨g, st, false, false⟩ 32) :
    goM l ⟨g, st, false, false⟩ k = resM l st (nFrac l k) := by
  unfold nFrac
  by_cases hk : k < l.length
  · rw [seeP_at hk]
    by_cases h : atL l k = 46
    · rw [if_pos h, ← dot_l]
      exact goM_go hk (by rw [← h] at h0; exact h0) (by decide)
    · rw [if_neg h]
      exact exp_l hk0 h1 (fun z => h2 z h) h3
  · have : seeP l k = 0 := by unfold seeP; rw [if_neg hk]
    rw [this, if_neg (by decide)]
    exact exp_l hk0 h1 (fun z => absurd z hk) h3
theorem s0_l (l : List UInt8) (st : List Int) (k : Nat) (hk0 : 0 < k) : goM l ⟨.S0, st, false, false⟩ k = resM l st (nFrac l k) := by
  refine frac_l hk0 rfl (fun c h => ?_) (fun _ h4 h5 => ?_) rfl
  · simp only [stepM, s0M]; rw [if_neg (by omega), if_pos h]; rfl
  · simp only [stepM, s0M]; rw [if_neg h4, if_neg h5]
theorem s1_l (l : List UInt8) (st : List Int) (k : Nat) (hk0 : 0 < k) (hk : k ≤ l.length) : goM l ⟨.S1, st, false, false⟩ k = resM l st (nFrac l (dgN l k)) := by
  rw [dig_loop (fun c h => by simp only [stepM, s1M]; rw [if_pos h]; rfl) l.length k (by omega)]
  have hr := dgN_range hk
  refine frac_l (by omega) rfl (fun c h => ?_) (fun z h4 h5 => ?_) rfl
  · simp only [stepM, s1M, s0M]; rw [if_neg (by unfold digB; omega), if_neg (by omega), if_pos h]; rfl
  · simp only [stepM, s1M, s0M]; rw [if_neg (dg_not l.length k (by omega) z), if_neg h4, if_neg h5]
theorem nInt_48 {l : List UInt8} {k : Nat} (h : seeP l k = 48) : nInt l k = nFrac l (k + 1) := by unfold nInt; rw [if_pos h]
theorem nInt_19 {l : List UInt8} {k : Nat} (hk : k < l.length) (h : 49 ≤ atL l k ∧ atL l k ≤ 57) : nInt l k = nFrac l (dgN l (k + 1)) := by
  have := dgN_pos hk
  unfold nInt
  rw [seeP_at hk, if_neg (by omega), digP_yes hk (by unfold digB; omega), if_neg (by omega)]
theorem nInt_no {l : List UInt8} {k : Nat} (h : k < l.length → ¬ digB (atL l k)) : nInt l k = 0 := by
  have : ¬ seeP l k = 48 := by
    by_cases hk : k < l.length
    · rw [seeP_at hk]; have := h hk; unfold digB at this; omega
    · unfold seeP; rw [if_neg hk]; decide
  unfold nInt
  rw [if_neg this, digP_no h, if_pos rfl]
theorem neg_l (l : List UInt8) (st : List Int) (k : Nat) : goM l ⟨.Neg, st, false, false⟩ k = resM l st (nInt l k) := by
  by_cases hk : k < l.length
  · by_cases h : atL l k = 48
    · rw [nInt_48 (by rw [seeP_at hk]; exact h), ← s0_l l st (k + 1) (by omega)]
      exact goM_go hk (by simp only [stepM]; rw [if_pos h]; rfl) (by decide)
    · by_cases h2 : 49 ≤ atL l k ∧ atL l k ≤ 57
      · rw [nInt_19 hk h2, ← s1_l l st (k + 1) (by omega) hk]
        exact goM_go hk (by simp only [stepM]; rw [if_neg h, if_pos h2]; rfl) (by decide)
      · rw [nInt_no (fun _ => by unfold digB; omega)]
        exact goM_no hk (by simp only [stepM]; rw [if_neg h, if_neg h2]; rfl)
  · rw [nInt_no (fun z => absurd z hk), goM_end hk]; rfl
end Go.Proofs.YtklncgmfbflooaaDoor
