/- The old scanner's machine takes just the texts of the grammar: values, whole texts; in plain words, of no program. -/
import Derived.Test.YtklncgmfbflooaaDoorScanT
namespace Go.Proofs.YtklncgmfbflooaaDoor
open Go.RowKit
theorem ev_sp (l : List UInt8) (p : Int) (st : List Int) (k : Nat) : accE l (p :: st) k = accE l (p :: st) (spN l k) := by
  unfold accE
  refine goM_sp (fun c h => ?_) l.length k (by omega)
  simp only [stepM, endValM]
  rw [if_pos h]; rfl
theorem end_false {l : List UInt8} {p : Int} {st : List Int} {k : Nat} (h : ¬ k < l.length) : accE l (p :: st) k = false := by
  unfold accE; rw [goM_end h]; rfl
theorem seeP_no {l : List UInt8} {k : Nat} (h : ¬ k < l.length) : seeP l k = 0 := by unfold seeP; rw [if_neg h]
/-- Behind an element: z closes, a comma goes on with r. -/
theorem next_l {l : List UInt8} {p z : Int} {st : List Int} {r : Nat → Nat} {s' : Cfg} (hz : ∀ k, k < l.length → atL l k = z → ¬ isSp (atL l k) → goM l ⟨.EV, p :: st, false, false⟩ k = accE l st (k + 1))
    (hc : ∀ k, k < l.length → atL l k = 44 → goM l ⟨.EV, p :: st, false, false⟩ k = goM l s' (k + 1)) (hn : ∀ k, k < l.length → ¬ isSp (atL l k) → ¬ atL l k = z → ¬ atL l k = 44 → goM l ⟨.EV, p :: st, false, false⟩ k = false) (hz0 : ¬ z = 0) (_hz1 : ¬ z = 44) (v : Nat) (hv : v ≤ l.length)
    (hr : seeP l (spN l v) = 44 → goM l s' (spN l v + 1) = resM l st (r (spN l v + 1))) : resM l (p :: st) v = resM l st (nextN l z r v) := by
  unfold nextN
  by_cases v0 : v = 0
  · subst v0
    rw [if_pos rfl]; rfl
  · rw [if_neg v0, resM_pos (by omega), ev_sp]
    have hs := spN_range hv
    by_cases hk : spN l v < l.length
    · have hns := not_isSp l.length v (by omega) hk
      rw [seeP_at hk] at hr ⊢
      by_cases a : atL l (spN l v) = z
      · rw [if_pos a, resM_pos (by omega)]
        exact hz _ hk a hns
      · rw [if_neg a]
        by_cases b : atL l (spN l v) = 44
        · rw [if_pos b, ← hr b]
          exact hc _ hk b
        · rw [if_neg b]
          exact hn _ hk hns a b
    · rw [seeP_no hk, if_neg (fun e => hz0 e.symm), if_neg (by decide)]
      exact end_false hk
theorem nsp (c : Int) (h : isSp c) : ¬ c = 34 ∧ ¬ c = 44 ∧ ¬ c = 58 ∧ ¬ c = 91 ∧ ¬ c = 93 ∧ ¬ c = 123 ∧ ¬ c = 125 := by unfold isSp at h; omega
/-- The members of an object behind one of them. -/
theorem nextO_l (l : List UInt8) (st : List Int) (v : Nat) (hv : v ≤ l.length) (hr : seeP l (spN l v) = 44 → goM l ⟨.BS, 0 :: st, false, false⟩ (spN l v + 1) = resM l st (pO l (spN l (spN l v + 1)))) : resM l (1 :: st) v = resM l st (nextN l 125 (fun q => pO l (spN l q)) v) := by
  refine next_l (s' := ⟨.BS, 0 :: st, false, false⟩) (r := fun q => pO l (spN l q)) (fun k hk h hs => ?_) (fun k hk h => ?_) (fun k hk hs h1 h2 => ?_) (by decide) (by decide) v hv hr
  · rw [goM_go hk (s' := popM ⟨.EV, 1 :: st, false, false⟩) (c := 5) ?_ (by decide)]
    · exact pop_ev l 1 st .EV (k + 1)
    · simp only [stepM, endValM]; rw [if_neg hs, if_neg (by decide), if_pos trivial, if_neg (by omega), if_pos h]
  · refine goM_go hk (c := 4) ?_ (by decide)
    simp only [stepM, endValM]; rw [if_neg (fun z => (nsp _ z).2.1 h), if_neg (by decide), if_pos trivial, if_pos h]
  · refine goM_no hk (s' := (⟨.EV, 1 :: st, false, false⟩ : Cfg).fault) ?_
    simp only [stepM, endValM]; rw [if_neg hs, if_neg (by decide), if_pos trivial, if_neg h2, if_neg h1]; rfl
/-- The elements of an array behind one of them. -/
theorem nextA_l (l : List UInt8) (st : List Int) (v : Nat) (hv : v ≤ l.length) (hr : seeP l (spN l v) = 44 → goM l ⟨.BV, 2 :: st, false, false⟩ (spN l v + 1) = resM l st (pA l (spN l v + 1))) : resM l (2 :: st) v = resM l st (nextN l 93 (pA l) v) := by
  refine next_l (s' := ⟨.BV, 2 :: st, false, false⟩) (r := pA l) (fun k hk h hs => ?_) (fun k hk h => ?_) (fun k hk hs h1 h2 => ?_) (by decide) (by decide) v hv hr
  · rw [goM_go hk (s' := popM ⟨.EV, 2 :: st, false, false⟩) (c := 8) ?_ (by decide)]
    · exact pop_ev l 2 st .EV (k + 1)
    · simp only [stepM, endValM]; rw [if_neg hs, if_neg (by decide), if_neg (by decide), if_neg (by omega), if_pos h]
  · refine goM_go hk (c := 7) ?_ (by decide)
    simp only [stepM, endValM]; rw [if_neg (fun z => (nsp _ z).2.1 h), if_neg (by decide), if_neg (by decide), if_pos h]; rfl
  · refine goM_no hk (s' := (⟨.EV, 2 :: st, false, false⟩ : Cfg).fault) ?_
    simp only [stepM, endValM]; rw [if_neg hs, if_neg (by decide), if_neg (by decide), if_neg h2, if_neg h1]; rfl
/-- A name and its colon. -/
theorem name_l (l : List UInt8) (st : List Int) (k : Nat) (hns : k < l.length → ¬ isSp (atL l k)) : goM l ⟨.BS, 0 :: st, false, false⟩ k = if nameN l k = 0 then false else goM l ⟨.BV, 1 :: st, false, false⟩ (nameN l k) := by
  by_cases hk : k < l.length
  · by_cases h : atL l k = 34
    · have eq : strQ true l k = strN true l (k + 1) := by unfold strQ; rw [seeP_at hk, if_pos h]
      rw [goM_go hk (s' := ⟨.IS, 0 :: st, false, false⟩) (c := 1) (by simp only [stepM, bsM]; rw [if_neg (hns hk), if_pos h]; rfl) (by decide), str_l l _ l.length (k + 1) (by omega) (by omega)]
      unfold nameN
      rw [eq]
      by_cases q : strN true l (k + 1) = 0
      · rw [if_pos q, if_pos q, if_pos rfl]
      · have hq := strN_range l.length (k + 1) (by omega) (by omega) q
        rw [if_neg q, if_neg q, ev_sp]
        have hs := spN_range (l := l) (k := strN true l (k + 1) + 1) (by omega)
        generalize hj : spN l (strN true l (k + 1) + 1) = j at hs ⊢
        by_cases hjl : j < l.length
        · have hnj : ¬ isSp (atL l j) := by rw [← hj] at hjl ⊢; exact not_isSp l.length _ (by omega) hjl
          rw [seeP_at hjl]
          unfold accE
          by_cases c : atL l j = 58
          · rw [if_pos c, if_neg (by omega)]
            refine goM_go hjl (c := 3) ?_ (by decide)
            simp only [stepM, endValM]; rw [if_neg hnj, if_pos trivial, if_pos c]
          · rw [if_neg c, if_pos rfl]
            refine goM_no hjl (s' := (⟨.EV, 0 :: st, false, false⟩ : Cfg).fault) ?_
            simp only [stepM, endValM]; rw [if_neg hnj, if_pos trivial, if_neg c]; rfl
        · rw [seeP_no hjl, if_neg (show ¬ (0 : Int) = 58 by decide), if_pos rfl]
          exact end_false hjl
    · have e : nameN l k = 0 := by unfold nameN strQ; rw [seeP_at hk, if_neg h, if_pos rfl]
      rw [e, if_pos rfl]
      refine goM_no hk (s' := (⟨.BS, 0 :: st, false, false⟩ : Cfg).fault) ?_
      simp only [stepM, bsM]; rw [if_neg (hns hk), if_neg h]; rfl
  · have e : nameN l k = 0 := by unfold nameN strQ; rw [seeP_no hk, if_neg (show ¬ (0 : Int) = 34 by decide), if_pos rfl]
    rw [e, if_pos rfl, goM_end hk]; rfl
/-- A literal, a number or a string at a place without white space. -/
theorem sca_l (l : List UInt8) (st : List Int) (k : Nat) (hk : k < l.length) (hns : ¬ isSp (atL l k)) (h1 : ¬ atL l k = 123) (h2 : ¬ atL l k = 91) : goM l ⟨.BV, st, false, false⟩ k = resM l st (scaN l k) := by
  unfold scaN
  rw [seeP_at hk]
  have hb : ∀ c, c = atL l k → stepM .BV ⟨.BV, st, false, false⟩ c = bvM ⟨.BV, st, false, false⟩ c := fun _ _ => rfl
  by_cases a : atL l k = 110
  · rw [if_pos a, ← null_l l st k hk a]
    exact goM_go hk (c := 1) (by rw [show (⟨.BV, st, false, false⟩ : Cfg).q = Q.BV from rfl, a]; rfl) (by decide)
  · rw [if_neg a]
    by_cases b : atL l k = 116
    · rw [if_pos b, ← true_l l st k hk b]
      exact goM_go hk (c := 1) (by rw [show (⟨.BV, st, false, false⟩ : Cfg).q = Q.BV from rfl, b]; rfl) (by decide)
    · rw [if_neg b]
      by_cases c : atL l k = 102
      · rw [if_pos c, ← false_l l st k hk c]
        exact goM_go hk (c := 1) (by rw [show (⟨.BV, st, false, false⟩ : Cfg).q = Q.BV from rfl, c]; rfl) (by decide)
      · rw [if_neg c]
        by_cases d : atL l k = 34
        · have eq : strQ true l k = strN true l (k + 1) := by unfold strQ; rw [seeP_at hk, if_pos d]
          rw [if_pos d, eq, goM_go hk (s' := ⟨.IS, st, false, false⟩) (c := 1) (by rw [show (⟨.BV, st, false, false⟩ : Cfg).q = Q.BV from rfl, d]; rfl) (by decide), str_l l st l.length (k + 1) (by omega) (by omega)]
          by_cases z : strN true l (k + 1) = 0
          · rw [if_pos z, if_pos z]; rfl
          · rw [if_neg z, if_neg z, resM_pos (by omega)]
        · rw [if_neg d]
          by_cases e : atL l k = 45
          · rw [if_pos (Or.inl e)]
            have en : numN l k = nInt l (k + 1) := by unfold numN; rw [seeP_at hk, if_pos e]
            rw [en, ← neg_l]
            exact goM_go hk (c := 1) (by rw [show (⟨.BV, st, false, false⟩ : Cfg).q = Q.BV from rfl, e]; rfl) (by decide)
          · have en : numN l k = nInt l k := by unfold numN; rw [seeP_at hk, if_neg e]
            by_cases g : atL l k = 48
            · rw [if_pos (Or.inr (by omega)), en, nInt_48 (by rw [seeP_at hk]; exact g), ← s0_l l st (k + 1) (by omega)]
              exact goM_go hk (c := 1) (by rw [show (⟨.BV, st, false, false⟩ : Cfg).q = Q.BV from rfl, g]; rfl) (by decide)
            · by_cases i : 49 ≤ atL l k ∧ atL l k ≤ 57
              · rw [if_pos (Or.inr (by omega)), en, nInt_19 hk i, ← s1_l l st (k + 1) (by omega) hk]
                refine goM_go hk (c := 1) ?_ (by decide)
                simp only [stepM, bvM]
                rw [if_neg hns, if_neg h1, if_neg h2, if_neg d, if_neg e, if_neg g, if_neg b, if_neg c, if_neg a, if_pos i]; rfl
              · rw [if_neg (by omega)]
                refine goM_no hk (s' := (⟨.BV, st, false, false⟩ : Cfg).fault) ?_
                simp only [stepM, bvM]
                rw [if_neg hns, if_neg h1, if_neg h2, if_neg d, if_neg e, if_neg g, if_neg b, if_neg c, if_neg a, if_neg i]; rfl
theorem bv_sp (l : List UInt8) (st : List Int) (k : Nat) : goM l ⟨.BV, st, false, false⟩ k = goM l ⟨.BV, st, false, false⟩ (spN l k) :=
  goM_sp (fun c h => by simp only [stepM, bvM]; rw [if_pos h]) l.length k (by omega)
theorem bs_sp (l : List UInt8) (st : List Int) (k : Nat) : goM l ⟨.BS, st, false, false⟩ k = goM l ⟨.BS, st, false, false⟩ (spN l k) :=
  goM_sp (fun c h => by simp only [stepM, bsM]; rw [if_pos h]) l.length k (by omega)
/-- Behind the brace: it closes, or a name begins. -/
theorem bse_l (l : List UInt8) (st : List Int) (k : Nat) (_hk : k ≤ l.length) (hr : goM l ⟨.BS, 0 :: st, false, false⟩ (spN l k) = resM l st (pO l (spN l k))) : goM l ⟨.BSE, 0 :: st, false, false⟩ k = resM l st (openN l 125 (pO l) k) := by
  rw [goM_sp (fun c h => by simp only [stepM, bseM]; rw [if_pos h]) l.length k (by omega)]
  unfold openN
  by_cases hj : spN l k < l.length
  · have hns := not_isSp l.length k (by omega) hj
    rw [seeP_at hj]
    by_cases a : atL l (spN l k) = 125
    · rw [if_pos a, resM_pos (by omega), goM_go hj (s' := popM ⟨.BSE, 1 :: st, false, false⟩) (c := 5) ?_ (by decide)]
      · exact pop_ev l 1 st .BSE _
      · rw [show (⟨.BSE, 0 :: st, false, false⟩ : Cfg).q = Q.BSE from rfl, a]; rfl
    · rw [if_neg a, ← hr, goM_at hj, goM_at hj]
      have e : stepM .BSE ⟨.BSE, 0 :: st, false, false⟩ (atL l (spN l k)) = stepM .BS ⟨.BS, 0 :: st, false, false⟩ (atL l (spN l k)) := by
        simp only [stepM, bseM, bsM]
        rw [if_neg hns, if_neg a, if_neg hns, if_neg hns]; split <;> rfl
      show (if (stepM .BSE ⟨.BSE, 0 :: st, false, false⟩ (atL l (spN l k))).2 = 11 then false else goM l (stepM .BSE ⟨.BSE, 0 :: st, false, false⟩ (atL l (spN l k))).1 (spN l k + 1)) = if (stepM .BS ⟨.BS, 0 :: st, false, false⟩ (atL l (spN l k))).2 = 11 then false else goM l (stepM .BS ⟨.BS, 0 :: st, false, false⟩ (atL l (spN l k))).1 (spN l k + 1)
      rw [e]
  · rw [seeP_no hj, if_neg (by decide), ← hr, goM_end hj, goM_end hj]; rfl
/-- Behind the bracket: it closes, or an element begins. -/
theorem bve_l (l : List UInt8) (st : List Int) (k : Nat) (_hk : k ≤ l.length) (hr : goM l ⟨.BV, 2 :: st, false, false⟩ (spN l k) = resM l st (pA l (spN l k))) : goM l ⟨.BVE, 2 :: st, false, false⟩ k = resM l st (openN l 93 (pA l) k) := by
  rw [goM_sp (fun c h => by simp only [stepM, bveM]; rw [if_pos h]) l.length k (by omega)]
  unfold openN
  by_cases hj : spN l k < l.length
  · have hns := not_isSp l.length k (by omega) hj
    rw [seeP_at hj]
    by_cases a : atL l (spN l k) = 93
    · rw [if_pos a, resM_pos (by omega), goM_go hj (s' := popM ⟨.BVE, 2 :: st, false, false⟩) (c := 8) ?_ (by decide)]
      · exact pop_ev l 2 st .BVE _
      · rw [show (⟨.BVE, 2 :: st, false, false⟩ : Cfg).q = Q.BVE from rfl, a]; rfl
    · rw [if_neg a, ← hr, goM_at hj, goM_at hj]
      have e : stepM .BVE ⟨.BVE, 2 :: st, false, false⟩ (atL l (spN l k)) = stepM .BV ⟨.BV, 2 :: st, false, false⟩ (atL l (spN l k)) := by
        simp only [stepM, bveM, bvM]
        rw [if_neg hns, if_neg a, if_neg hns, if_neg hns]
        (repeat' split) <;> rfl
      show (if (stepM .BVE ⟨.BVE, 2 :: st, false, false⟩ (atL l (spN l k))).2 = 11 then false else goM l (stepM .BVE ⟨.BVE, 2 :: st, false, false⟩ (atL l (spN l k))).1 (spN l k + 1)) = if (stepM .BV ⟨.BV, 2 :: st, false, false⟩ (atL l (spN l k))).2 = 11 then false else goM l (stepM .BV ⟨.BV, 2 :: st, false, false⟩ (atL l (spN l k))).1 (spN l k + 1)
      rw [e]
  · rw [seeP_no hj, if_neg (by decide), ← hr, goM_end hj, goM_end hj]; rfl
theorem main_l (l : List UInt8) : ∀ (n : Nat), (∀ k st, k ≤ l.length → meas l 0 k ≤ n → goM l ⟨.BV, st, false, false⟩ k = resM l st (pV l k)) ∧
    (∀ k st, k ≤ l.length → meas l 1 k ≤ n → (k < l.length → ¬ isSp (atL l k)) → goM l ⟨.BS, 0 :: st, false, false⟩ k = resM l st (pO l k)) ∧
    (∀ k st, k ≤ l.length → meas l 2 k ≤ n → goM l ⟨.BV, 2 :: st, false, false⟩ k = resM l st (pA l k))
  | 0 => by
    refine ⟨fun k st hk hm => ?_, fun k st hk hm _ => ?_, fun k st hk hm => ?_⟩
    all_goals (unfold meas at hm; omega)
  | n + 1 => by
    obtain ⟨ih0, ih1, ih2⟩ := main_l l n
    refine ⟨fun k st hk hm => ?_, fun k st hk hm hns => ?_, fun k st hk hm => ?_⟩
    · have hs := spN_range hk
      unfold meas at hm
      rw [if_pos (Or.inl rfl)] at hm
      rw [pV_eq hk, bv_sp]
      by_cases hj : spN l k < l.length
      · have hns := not_isSp l.length k (by omega) hj
        rw [seeP_at hj]
        have h2 := spN_range (l := l) (k := spN l k + 1) (by omega)
        by_cases a : atL l (spN l k) = 123
        · rw [if_pos a, goM_go hj (s' := ⟨.BSE, 0 :: st, false, false⟩) (c := 2) (by rw [show (⟨.BV, st, false, false⟩ : Cfg).q = Q.BV from rfl, a]; rfl) (by decide)]
          exact bse_l l st _ (by omega) (ih1 _ st h2.2 (by unfold meas; rw [if_pos (Or.inr rfl)]; omega) (fun z => not_isSp l.length _ (by omega) z))
        · rw [if_neg a]
          by_cases b : atL l (spN l k) = 91
          · rw [if_pos b, goM_go hj (s' := ⟨.BVE, 2 :: st, false, false⟩) (c := 6) (by rw [show (⟨.BV, st, false, false⟩ : Cfg).q = Q.BV from rfl, b]; rfl) (by decide)]
            exact bve_l l st _ (by omega) (ih2 _ st h2.2 (by unfold meas; rw [if_neg (by decide)]; omega))
          · rw [if_neg b]
            exact sca_l l st _ hj hns a b
      · have e : scaN l (spN l k) = 0 := by
          unfold scaN
          rw [seeP_no hj, if_neg (by decide), if_neg (by decide), if_neg (by decide), if_neg (by decide), if_neg (by decide)]
        rw [seeP_no hj, if_neg (by decide), if_neg (by decide), e, goM_end hj]; rfl
    · unfold meas at hm
      rw [if_pos (Or.inr rfl)] at hm
      rw [pO_eq hk, name_l l st k hns]
      by_cases a : nameN l k = 0
      · rw [if_pos a, if_pos a]; rfl
      · have hr := nameN_range a
        rw [if_neg a, if_neg a, ih0 _ _ hr.2 (by unfold meas; rw [if_pos (Or.inl rfl)]; omega)]
        by_cases v0 : pV l (nameN l k) = 0
        · rw [v0]; rfl
        · have hv := pV_range hr.2 v0
          generalize pV l (nameN l k) = v at hv
          have hz := spN_range hv.2
          refine nextO_l l st v hv.2 fun q => ?_
          have h1 := seeP_le q (by decide)
          have h2 := spN_range (l := l) (k := spN l v + 1) (by omega)
          rw [bs_sp]
          exact ih1 _ st h2.2 (by unfold meas; rw [if_pos (Or.inr rfl)]; omega) (fun z => not_isSp l.length _ (by omega) z)
    · unfold meas at hm
      rw [if_neg (by decide)] at hm
      rw [pA_eq hk, ih0 _ _ hk (by unfold meas; rw [if_pos (Or.inl rfl)]; omega)]
      by_cases v0 : pV l k = 0
      · rw [v0]; rfl
      · have hv := pV_range hk v0
        generalize pV l k = v at hv
        have hz := spN_range hv.2
        refine nextA_l l st v hv.2 fun q => ?_
        have h1 := seeP_le q (by decide)
        exact ih2 _ st (by omega) (by unfold meas; rw [if_neg (by decide)]; omega)
/-- Behind the whole value: white space alone. -/
theorem top_l (l : List UInt8) : ∀ (n k : Nat), l.length ≤ n + k → k ≤ l.length → goM l ⟨.ET, [], true, false⟩ k = decide (spN l k = l.length)
  | 0, k, hn, hk => by
    have e : spN l k = k := skN_at (fun z => by have := z.1; omega)
    rw [e, goM_end (by omega)]
    have : k = l.length := by omega
    simp [this, eofM]
  | n + 1, k, hn, hk => by
    by_cases q : k < l.length ∧ decide (isSp (atL l k)) = true
    · have e : spN l k = spN l (k + 1) := skN_step q.1 q.2
      rw [e, ← top_l l n (k + 1) (by omega) q.1]
      refine goM_go q.1 (c := 10) ?_ (by decide)
      simp only [stepM, endTopM]
      rw [if_pos (by simpa using q.2)]
    · have e : spN l k = k := skN_at q
      rw [e]
      by_cases hl : k < l.length
      · have hns : ¬ isSp (atL l k) := fun z => q ⟨hl, by simpa using z⟩
        rw [goM_go hl (s' := ⟨.Err, [], true, true⟩) (c := 10) (by simp only [stepM, endTopM]; rw [if_neg hns]; rfl) (by decide), goM_err]
        symm; simp; omega
      · rw [goM_end hl]
        have : k = l.length := by omega
        simp [this, eofM]
/-- The scanner takes just the texts of the grammar. -/
theorem scan_taken (l : List UInt8) : goM l ⟨.BV, [], false, false⟩ 0 = takenB l := by
  rw [(main_l l (meas l 0 0)).1 0 [] (Nat.zero_le _) (Nat.le_refl _)]
  unfold takenB resM
  by_cases a : pV l 0 = 0
  · rw [if_pos a]; simp [a]
  · have hv := pV_range (Nat.zero_le _) a
    rw [if_neg a, ← et_ev, top_l l l.length _ (by omega) hv.2]
    simp [a]
end Go.Proofs.YtklncgmfbflooaaDoor
