/- Plain words: a string that the grammar takes has pieces that can be read; by strict rules nothing of it is replaced. Of no program but for the reader's plain words. -/
import Derived.Test.YtldcoaigecnpfaaDoorDcd
import Derived.Test.YtldcoaigecnpfaaDoorRdQuoted
namespace Go.Proofs.YtldcoaigecnpfaaDoor
open Go.RowKit
theorem hx_eq (c : Int) : hx c = hexv c := rfl
theorem atLd (m : List UInt8) (k j : Nat) : atL (m.drop k) j = atL m (k + j) := by
  rw [natL_at, natL_at, natL_drop]
theorem atL_take (m : List UInt8) (e j : Nat) (h : j < e) : atL (m.take e) j = atL m j := by
  unfold atL
  rw [List.getD_eq_getElem?_getD, List.getD_eq_getElem?_getD, List.getElem?_take, if_pos h]
theorem atL_none (m : List UInt8) (j : Nat) (h : m.length ≤ j) : atL m j = 0 := by
  unfold atL
  rw [List.getD_eq_getElem?_getD, List.getElem?_eq_none h]; rfl
theorem seePat (m : List UInt8) (j : Nat) : seeP m j = atL m j := by
  unfold seeP
  split
  · rfl
  · rw [atL_none _ _ (by omega)]
theorem hexAt_at (m : List UInt8) (j : Nat) : hexAt m j = hx (atL m j) := by unfold hexAt; rw [seePat]; rfl
/-- A text cut ahead of a quotation mark has the same character at its head. -/
theorem rl_cut (l : List UInt8) (n : Nat) (h0 : 0 < n) (hn : n < l.length) (h34 : atL l n = 34) : rlL (l.take n) = rlL l := by
  have hlen : (l.take n).length = n := by rw [List.length_take]; omega
  unfold rlL
  rw [hlen]
  have e0 : atL (l.take n) 0 = atL l 0 := atL_take _ _ _ h0
  rw [e0]
  have c : n = 1 ∨ n = 2 ∨ n = 3 ∨ 4 ≤ n := by omega
  rcases c with rfl | rfl | rfl | c
  · generalize atL (l.take 1) 1 = y1
    generalize atL (l.take 1) 2 = y2
    generalize atL (l.take 1) 3 = y3
    rw [h34]
    generalize atL l 0 = x0
    generalize atL l 2 = x2
    generalize atL l 3 = x3
    unfold rl; (repeat' split) <;> omega
  · rw [atL_take l 2 1 (by omega)]
    generalize atL (l.take 2) 2 = y2
    generalize atL (l.take 2) 3 = y3
    rw [h34]
    generalize atL l 0 = x0
    generalize atL l 1 = x1
    generalize atL l 3 = x3
    unfold rl; (repeat' split) <;> omega
  · rw [atL_take l 3 1 (by omega), atL_take l 3 2 (by omega)]
    generalize atL (l.take 3) 3 = y3
    rw [h34]
    generalize atL l 0 = x0
    generalize atL l 1 = x1
    generalize atL l 2 = x2
    unfold rl; (repeat' split) <;> omega
  · rw [atL_take l n 1 (by omega), atL_take l n 2 (by omega), atL_take l n 3 (by omega)]
    generalize atL l 0 = x0
    generalize atL l 1 = x1
    generalize atL l 2 = x2
    generalize atL l 3 = x3
    unfold rl; (repeat' split) <;> omega
theorem decW_cut (l : List UInt8) (n : Nat) (h0 : 0 < n) (hn : n < l.length) (h34 : atL l n = 34) : decW (l.take n) = decW l := by
  unfold decW; rw [rl_cut l n h0 hn h34]
/-- The bytes behind the first one of a character. -/
theorem rl_cont (l : List UInt8) (h : 0 < l.length) (j : Nat) (h1 : 1 ≤ j) (h2 : j < decW l) : 128 ≤ atL l j := by
  have hd : decW l = if rlL l = 0 then 1 else (rlL l).toNat := rfl
  have hr : rlL l = rl l.length (atL l 0) (atL l 1) (atL l 2) (atL l 3) := rfl
  have hw := decW_range l h
  have c : j = 1 ∨ j = 2 ∨ j = 3 := by omega
  have hlt : (j : Int) < rlL l := by
    rw [hd] at h2
    split at h2
    · omega
    · omega
  rw [hr] at hlt
  clear hd hr
  generalize atL l 0 = x0 at *
  rcases c with rfl | rfl | rfl
  · generalize atL l 1 = x1 at *
    generalize atL l 2 = x2 at *
    generalize atL l 3 = x3 at *
    unfold rl at hlt; (repeat' split at hlt) <;> omega
  · generalize atL l 1 = x1 at *
    generalize atL l 2 = x2 at *
    generalize atL l 3 = x3 at *
    unfold rl at hlt; (repeat' split at hlt) <;> omega
  · generalize atL l 1 = x1 at *
    generalize atL l 2 = x2 at *
    generalize atL l 3 = x3 at *
    unfold rl at hlt; (repeat' split at hlt) <;> omega
theorem stepN_92 {lo : Bool} {l : List UInt8} {k : Nat} (h : atL l k = 92) : stepN lo l k = escN lo l (k + 1) := by unfold stepN; rw [if_pos h]
theorem stepN_low {lo : Bool} {l : List UInt8} {k : Nat} (h : ¬ atL l k = 92) (h1 : atL l k < 32) : stepN lo l k = 0 := by unfold stepN; rw [if_neg h, if_pos h1]
theorem stepN_one {lo : Bool} {l : List UInt8} {k : Nat} (h : ¬ atL l k = 92) (h1 : ¬ atL l k < 32) (h2 : atL l k < 128 ∨ lo = true) : stepN lo l k = k + 1 := by unfold stepN; rw [if_neg h, if_neg h1, if_pos h2]
theorem stepN_many {lo : Bool} {l : List UInt8} {k : Nat} (h : ¬ atL l k = 92) (h1 : ¬ atL l k < 32) (h2 : ¬ (atL l k < 128 ∨ lo = true)) : stepN lo l k = if rlL (l.drop k) = 0 then 0 else k + decW (l.drop k) := by unfold stepN; rw [if_neg h, if_neg h1, if_neg h2]
/-- What strN's end tells of a place ahead of it. -/
theorem str_at {lo : Bool} {T : List UInt8} {k e : Nat} (hk : strN lo T k = e) (hke : k < e) (he : e < T.length) : ¬ atL T k = 34 ∧ ¬ stepN lo T k = 0 ∧ strN lo T (stepN lo T k) = e ∧ stepN lo T k ≤ e := by
  have hkT : k < T.length := by omega
  have a : ¬ atL T k = 34 := fun q => by rw [strN_quote hkT q] at hk; omega
  have b : ¬ stepN lo T k = 0 := fun q => by rw [strN_fail hkT a q] at hk; omega
  have c := strN_step hkT a b
  have d : strN lo T (stepN lo T k) = e := by rw [← c]; exact hk
  have r := stepN_range hkT b
  have f := strN_range (lo := lo) (l := T) T.length (stepN lo T k) (by omega) (by omega) (by rw [d]; omega)
  exact ⟨a, b, d, by rw [d] at f; exact f.1⟩
theorem loose_more {T : List UInt8} {e k : Nat} (he : e < T.length) (d : Nat) (hc : ∀ j, 1 ≤ j → j < d → 128 ≤ atL T (k + j)) (h34 : atL T e = 34) : ∀ j, 1 ≤ j → j ≤ d → k + 1 ≤ e → strN true T (k + 1) = e → k + j ≤ e ∧ strN true T (k + j) = e
  | 0, h, _, _, _ => absurd h (by omega)
  | 1, _, _, h1, h2 => ⟨h1, h2⟩
  | j + 2, _, hj, h1, h2 => by
    obtain ⟨ih1, ih2⟩ := loose_more he d hc h34 (j + 1) (by omega) (by omega) h1 h2
    have hb := hc (j + 1) (by omega) (by omega)
    have hne : k + (j + 1) < e := by
      rcases Nat.lt_or_ge (k + (j + 1)) e with q | q
      · exact q
      · have : k + (j + 1) = e := by omega
        rw [this, h34] at hb; omega
    obtain ⟨_, _, c, d'⟩ := str_at ih2 hne he
    rw [stepN_one (by omega) (by omega) (Or.inr rfl)] at c d'
    exact ⟨d', c⟩
theorem hexOk_of {T : List UInt8} {k e : Nat} (h : k + 6 ≤ e) (hu : 0 ≤ hexAt T (k + 2) ∧ 0 ≤ hexAt T (k + 3) ∧ 0 ≤ hexAt T (k + 4) ∧ 0 ≤ hexAt T (k + 5)) : hexOk ((T.take e).drop k) := by
  unfold hexOk
  simp only [hexAt_at] at hu
  rw [atLd, atLd, atLd, atLd, atL_take _ _ _ (by omega), atL_take _ _ _ (by omega), atL_take _ _ _ (by omega), atL_take _ _ _ (by omega)]
  exact hu
theorem uV_of {T : List UInt8} {k e : Nat} (he : e ≤ T.length) (h : k + 6 ≤ e) (h0 : atL T k = 92) (h1 : atL T (k + 1) = 117) (hu : 0 ≤ hexAt T (k + 2) ∧ 0 ≤ hexAt T (k + 3) ∧ 0 ≤ hexAt T (k + 4) ∧ 0 ≤ hexAt T (k + 5)) :
    uV ((T.take e).drop k) = ((hexAt T (k + 2) * 16 + hexAt T (k + 3)) * 16 + hexAt T (k + 4)) * 16 + hexAt T (k + 5) := by
  have hh := hexOk_of (T := T) h hu
  unfold uV
  rw [if_pos ⟨by rw [List.length_drop, List.length_take]; omega, by rw [atLd, atL_take _ _ _ (by omega)]; exact h0, by rw [atLd, atL_take _ _ _ (by omega)]; exact h1, hh⟩]
  unfold hexV
  rw [atLd, atLd, atLd, atLd, atL_take _ _ _ (by omega), atL_take _ _ _ (by omega), atL_take _ _ _ (by omega), atL_take _ _ _ (by omega)]
  simp only [hexAt_at]
theorem uV_back {T : List UInt8} {k e : Nat} (he : e ≤ T.length) (h : 0 ≤ uV ((T.take e).drop k)) : k + 6 ≤ e ∧ atL T k = 92 ∧ atL T (k + 1) = 117 ∧ 0 ≤ hexAt T (k + 2) ∧ 0 ≤ hexAt T (k + 3) ∧ 0 ≤ hexAt T (k + 4) ∧ 0 ≤ hexAt T (k + 5) := by
  obtain ⟨a, b, c, d⟩ := uV_ok h
  rw [List.length_drop, List.length_take] at a
  have hk6 : k + 6 ≤ e := by omega
  unfold hexOk at d
  rw [atLd, atL_take _ _ _ (by omega)] at b c
  rw [atLd, atLd, atLd, atLd, atL_take _ _ _ (by omega), atL_take _ _ _ (by omega), atL_take _ _ _ (by omega), atL_take _ _ _ (by omega)] at d
  simp only [hexAt_at]
  exact ⟨hk6, b, c, d⟩
/-- One piece. -/
theorem str_piece {lo : Bool} {T : List UInt8} {k e : Nat} (hk : strN lo T k = e) (hke : k < e) (he : e < T.length) (h34 : atL T e = 34) :
    okPc ((T.take e).drop k) = true ∧ (lo = false → neatC ((T.take e).drop k) = true) ∧ strN lo T (k + dcW ((T.take e).drop k)) = e ∧ k + dcW ((T.take e).drop k) ≤ e := by
  obtain ⟨a34, hst, hnx, hle⟩ := str_at hk hke he
  have hl : ((T.take e).drop k).length = e - k := by rw [List.length_drop, List.length_take]; omega
  have hat : ∀ j, k + j < e → atL ((T.take e).drop k) j = atL T (k + j) := fun j hj => by rw [atLd, atL_take _ _ _ hj]
  have h0 : (natL ((T.take e).drop k) 0 : Int) = atL T k := by rw [← natL_at, hat 0 (by omega)]; rfl
  have hx0 := hexAt_range T (k + 2)
  have hx1 := hexAt_range T (k + 3)
  have hx2 := hexAt_range T (k + 4)
  have hx3 := hexAt_range T (k + 5)
  by_cases c92 : atL T k = 92
  · have n92 : natL ((T.take e).drop k) 0 = 92 := by omega
    have hesc : stepN lo T k = escN lo T (k + 1) := stepN_92 c92
    rw [hesc] at hst hnx hle
    have hk2 : k + 2 ≤ e := by
      have := escN_range hst
      omega
    have h1 : (natL ((T.take e).drop k) 1 : Int) = atL T (k + 1) := by rw [← natL_at, hat 1 (by omega)]
    have hs1 : seeP T (k + 1) = atL T (k + 1) := seePat _ _
    unfold okPc neatC dcW escW
    rw [if_pos n92, if_pos n92, if_pos n92]
    by_cases h8 : esc8 (atL T (k + 1))
    · have hE : escN lo T (k + 1) = k + 2 := by unfold escN; rw [hs1, if_pos h8]
      rw [hE] at hnx hle
      unfold esc8 at h8
      rw [if_neg (by omega)]
      refine ⟨by rw [decide_eq_true_iff, hl]; omega, fun _ => ?_, hnx, hle⟩
      rw [Bool.not_eq_true', decide_eq_false_iff_not]; omega
    · by_cases h9 : atL T (k + 1) = 117
      · have n117 : natL ((T.take e).drop k) 1 = 117 := by omega
        have hE := escN_u lo T (k + 1) (by rw [hs1]; exact h9)
        rw [if_pos n117]
        by_cases u : unitAt lo false T (k + 1 + 1)
        · rw [if_pos u] at hE
          obtain ⟨hu, _, hu2⟩ := u
          rw [show k + 1 + 1 = k + 2 by omega, show k + 2 + 1 = k + 3 by omega, show k + 2 + 2 = k + 4 by omega, show k + 2 + 3 = k + 5 by omega] at hu
          rw [show k + 1 + 1 = k + 2 by omega, show k + 2 + 1 = k + 3 by omega] at hu2
          by_cases hf : halfAt lo false T (k + 1 + 1) = true
          · rw [if_pos hf] at hE
            unfold halfAt halfB at hf
            rw [show k + 1 + 1 = k + 2 by omega, show k + 2 + 1 = k + 3 by omega] at hf
            simp only [Bool.and_eq_true, Bool.not_eq_true', decide_eq_true_eq] at hf
            obtain ⟨⟨hlo, _⟩, hh1, hh2⟩ := hf
            have hu3 := hu2 hlo rfl hh1
            by_cases a : seeP T (k + 1 + 5) = 92 ∧ seeP T (k + 1 + 6) = 117 ∧ unitAt lo true T (k + 1 + 7)
            · rw [if_pos a] at hE
              rw [hE] at hnx hle
              obtain ⟨a1, a2, a3, a4, _⟩ := a
              rw [seePat] at a1 a2
              have a4' := a4 hlo rfl
              have a3' : 0 ≤ hexAt T (k + 6 + 2) ∧ 0 ≤ hexAt T (k + 6 + 3) ∧ 0 ≤ hexAt T (k + 6 + 4) ∧ 0 ≤ hexAt T (k + 6 + 5) := a3
              have hv := uV_of (T := T) (k := k) (e := e) (by omega) (by omega) c92 h9 hu
              have hv2 := uV_of (T := T) (k := k + 6) (e := e) (by omega) (by omega) a1 a2 a3
              have hd6 : ((T.take e).drop k).drop 6 = (T.take e).drop (k + 6) := by rw [List.drop_drop]
              have r2 := hexAt_range T (k + 6 + 4)
              have r3 := hexAt_range T (k + 6 + 5)
              have hp : pairOk (uV ((T.take e).drop k)) (uV (((T.take e).drop k).drop 6)) := by
                rw [hd6, hv, hv2]
                unfold pairOk
                have q1 : hexAt T (k + 1 + 7) = hexAt T (k + 6 + 2) := rfl
                have q2 : hexAt T (k + 1 + 7 + 1) = hexAt T (k + 6 + 3) := rfl
                have q3 := hexAt_range T (k + 6 + 3)
                omega
              unfold uniW
              rw [if_pos hp]
              refine ⟨?_, fun _ => ?_, hnx, hle⟩
              · rw [decide_eq_true_iff, hl]
                refine ⟨by omega, ?_⟩
                have := hp.1
                exact .inr (.inr (.inr (.inr (.inr (.inr (.inr (.inr ⟨n117, by omega⟩)))))))
              · rw [Bool.not_eq_true', decide_eq_false_iff_not]; exact fun q => q.2.2 hp
            · rw [if_neg a] at hE; exact absurd hE hst
          · rw [if_neg hf] at hE
            rw [hE] at hnx hle
            have hv := uV_of (T := T) (k := k) (e := e) (by omega) (by omega) c92 h9 hu
            have hok : decide (2 ≤ ((T.take e).drop k).length ∧ (natL ((T.take e).drop k) 1 = 34 ∨ natL ((T.take e).drop k) 1 = 92 ∨ natL ((T.take e).drop k) 1 = 47 ∨ natL ((T.take e).drop k) 1 = 98 ∨ natL ((T.take e).drop k) 1 = 102 ∨ natL ((T.take e).drop k) 1 = 110 ∨ natL ((T.take e).drop k) 1 = 114 ∨ natL ((T.take e).drop k) 1 = 116 ∨ (natL ((T.take e).drop k) 1 = 117 ∧ 0 ≤ uV ((T.take e).drop k)))) = true := by
              rw [decide_eq_true_iff, hl]
              exact ⟨by omega, .inr (.inr (.inr (.inr (.inr (.inr (.inr (.inr ⟨n117, by rw [hv]; omega⟩)))))))⟩
            have hd6 : ((T.take e).drop k).drop 6 = (T.take e).drop (k + 6) := by rw [List.drop_drop]
            cases lo with
            | false =>
              have hn : ¬ halfU (uV ((T.take e).drop k)) := by
                have hb := hu2 rfl rfl
                unfold halfAt halfB at hf
                rw [show k + 1 + 1 = k + 2 by omega, show k + 2 + 1 = k + 3 by omega] at hf
                simp only [Bool.not_false, Bool.true_and, decide_eq_true_eq] at hf
                rw [hv]; unfold halfU; omega
              have hnp : ¬ pairOk (uV ((T.take e).drop k)) (uV (((T.take e).drop k).drop 6)) := fun q => hn ⟨q.1, by have := q.2.1; omega⟩
              unfold uniW
              rw [if_neg hnp]
              refine ⟨hok, fun _ => ?_, hnx, hle⟩
              rw [Bool.not_eq_true', decide_eq_false_iff_not]; exact fun q => hn q.2.1
            | true =>
              by_cases hp : pairOk (uV ((T.take e).drop k)) (uV (((T.take e).drop k).drop 6))
              · unfold uniW
                rw [if_pos hp]
                refine ⟨hok, (fun q => by cases q), ?_⟩
                rw [hd6] at hp
                obtain ⟨b1, b2, b3, b4⟩ := uV_back (T := T) (k := k + 6) (e := e) (by omega) (by have := hp.2.2.1; omega)
                have hs6 := str_at (lo := true) (k := k + 6) hnx (by omega) he
                have hE6 : stepN true T (k + 6) = k + 12 := by
                  rw [stepN_92 b2, escN_u true T (k + 6 + 1) (by rw [seePat]; exact b3), if_pos ⟨b4, (fun q => by cases q), (fun q => by cases q)⟩, if_neg (by simp [halfAt, halfB])]
                rw [hE6] at hs6
                exact ⟨hs6.2.2.1, hs6.2.2.2⟩
              · unfold uniW
                rw [if_neg hp]
                exact ⟨hok, (fun q => by cases q), hnx, hle⟩
        · rw [if_neg u] at hE; exact absurd hE hst
      · exfalso; apply hst; unfold escN; rw [hs1, if_neg h8, if_neg h9]
  · have n92 : ¬ natL ((T.take e).drop k) 0 = 92 := by omega
    have hpos : 0 < ((T.take e).drop k).length := by rw [hl]; omega
    have hcut : decW ((T.take e).drop k) = decW (T.drop k) ∧ rlL ((T.take e).drop k) = rlL (T.drop k) := by
      have e1 : (T.take e).drop k = (T.drop k).take (e - k) := by rw [List.drop_take]
      have e2 : atL (T.drop k) (e - k) = 34 := by rw [atLd, show k + (e - k) = e by omega]; exact h34
      rw [e1]
      exact ⟨decW_cut _ _ (by omega) (by rw [List.length_drop]; omega) e2, rl_cut _ _ (by omega) (by rw [List.length_drop]; omega) e2⟩
    unfold okPc neatC dcW
    rw [if_neg n92, if_neg n92, if_neg n92]
    by_cases c32 : atL T k < 32
    · exact absurd (stepN_low c92 c32) hst
    · refine ⟨by rw [decide_eq_true_iff]; omega, ?_⟩
      by_cases c128 : atL T k < 128
      · have hd := decW_ascii ((T.take e).drop k) (by omega)
        rw [stepN_one c92 c32 (Or.inl c128)] at hnx hle
        rw [hd.2, hd.1]
        exact ⟨fun _ => by decide, hnx, hle⟩
      · cases lo with
        | true =>
          rw [stepN_one c92 c32 (Or.inr rfl)] at hnx hle
          refine ⟨(fun q => by cases q), ?_⟩
          have hw := decW_range ((T.take e).drop k) hpos
          have := loose_more he (decW ((T.take e).drop k)) (fun j h1 h2 => by
            have := rl_cont ((T.take e).drop k) hpos j h1 h2
            rw [hat j (by rw [hl] at hw; omega)] at this
            exact this) h34 (decW ((T.take e).drop k)) hw.1 (Nat.le_refl _) hle hnx
          exact ⟨this.2, this.1⟩
        | false =>
          have hm := stepN_many (lo := false) c92 c32 (by rintro (q | q); exact c128 q; cases q)
          by_cases z : rlL (T.drop k) = 0
          · rw [if_pos z] at hm; exact absurd hm hst
          · rw [if_neg z] at hm
            rw [hm] at hnx hle
            rw [hcut.1, hcut.2]
            exact ⟨fun _ => by rw [decide_eq_true_iff]; exact z, hnx, hle⟩
/-- All pieces. -/
theorem str_ok {lo : Bool} {T : List UInt8} {e : Nat} (he : e < T.length) (h34 : atL T e = 34) : ∀ (n k : Nat), e ≤ n + k → k ≤ e → strN lo T k = e → okL ((T.take e).drop k) = true ∧ (lo = false → neatL ((T.take e).drop k) = true)
  | n, k, hn, hke, hk => by
    by_cases q : k = e
    · subst q
      have : (T.take k).drop k = [] := List.drop_of_length_le (by rw [List.length_take]; omega)
      rw [this]; exact ⟨rfl, fun _ => rfl⟩
    · have hke' : k < e := by omega
      obtain ⟨a, b, c, d⟩ := str_piece hk hke' he h34
      have hpos : 0 < ((T.take e).drop k).length := by rw [List.length_drop, List.length_take]; omega
      have hw := dcW_pos _ hpos
      match n, hn with
      | 0, hn => exact absurd hn (by omega)
      | n + 1, hn =>
        have ih := str_ok (lo := lo) he h34 n (k + dcW ((T.take e).drop k)) (by omega) d c
        have ed : ((T.take e).drop k).drop (dcW ((T.take e).drop k)) = (T.take e).drop (k + dcW ((T.take e).drop k)) := by rw [List.drop_drop]
        have e1 : okL ((T.take e).drop k) = (okPc ((T.take e).drop k) && okL (((T.take e).drop k).drop (dcW ((T.take e).drop k)))) := allW_step _ _ _ hpos hw
        have e2 := neatL_step ((T.take e).drop k) hpos
        rw [e1, e2, ed, a, ih.1]
        exact ⟨rfl, fun q => by rw [b q, ih.2 q]; rfl⟩
end Go.Proofs.YtldcoaigecnpfaaDoor
