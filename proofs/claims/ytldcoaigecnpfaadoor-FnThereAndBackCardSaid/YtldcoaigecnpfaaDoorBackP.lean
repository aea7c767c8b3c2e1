/- Plain words: what is quoted stands for the string itself, with what is no character replaced. Of no program. -/
import Derived.Test.YtldcoaigecnpfaaDoorQInv
import Derived.Test.YtldcoaigecnpfaaDoorUInv
namespace Go.Proofs.YtldcoaigecnpfaaDoor
open Go.RowKit
theorem two_piece (x : UInt8) (r : List UInt8) (h : x.toNat = 34 ∨ x.toNat = 92 ∨ x.toNat = 98 ∨ x.toNat = 102 ∨ x.toNat = 110 ∨ x.toNat = 114 ∨ x.toNat = 116) :
    dcW (92 :: x :: r) = 2 ∧ okPc (92 :: x :: r) = true ∧ neatC (92 :: x :: r) = true := by
  have h0 : natL (92 :: x :: r) 0 = 92 := rfl
  have h1 : natL (92 :: x :: r) 1 = x.toNat := rfl
  refine ⟨?_, ?_, ?_⟩
  · unfold dcW escW
    rw [if_pos h0, h1, if_neg (by omega)]
  · unfold okPc
    rw [if_pos h0, decide_eq_true_iff, h1]
    exact ⟨by simp, by omega⟩
  · unfold neatC
    rw [if_pos h0, h1, decide_eq_false (fun q => by have := q.1; omega)]
    rfl
theorem u4_low : ∀ c : Fin 32, hx (atL (u4 c.val) 2) = 0 ∧ hx (atL (u4 c.val) 3) = 0 ∧ 0 ≤ hx (atL (u4 c.val) 4) ∧ 0 ≤ hx (atL (u4 c.val) 5) ∧ hx (atL (u4 c.val) 4) * 16 + hx (atL (u4 c.val) 5) = (c.val : Int) := by decide
theorem u_piece (c : Nat) (hc : c < 32) (r : List UInt8) : dcW (u4 c ++ r) = 6 ∧ dcC (u4 c ++ r) = [((c : Int)).toNat.toUInt8] ∧ okPc (u4 c ++ r) = true ∧ neatC (u4 c ++ r) = true := by
  have hul : hx (atL (u4 c) 2) = 0 ∧ hx (atL (u4 c) 3) = 0 ∧ 0 ≤ hx (atL (u4 c) 4) ∧ 0 ≤ hx (atL (u4 c) 5) ∧ hx (atL (u4 c) 4) * 16 + hx (atL (u4 c) 5) = (c : Int) := u4_low ⟨c, hc⟩
  obtain ⟨a2, a3, a4, a5, a6⟩ := hul
  have h0 : natL (u4 c ++ r) 0 = 92 := rfl
  have h1 : natL (u4 c ++ r) 1 = 117 := rfl
  have e2 : atL (u4 c ++ r) 2 = atL (u4 c) 2 := rfl
  have e3 : atL (u4 c ++ r) 3 = atL (u4 c) 3 := rfl
  have e4 : atL (u4 c ++ r) 4 = atL (u4 c) 4 := rfl
  have e5 : atL (u4 c ++ r) 5 = atL (u4 c) 5 := rfl
  have hok : hexOk (u4 c ++ r) := by unfold hexOk; rw [e2, e3, e4, e5]; omega
  have hu : uV (u4 c ++ r) = c := by
    unfold uV
    rw [if_pos ⟨by rw [List.length_append, u4_length]; omega, rfl, rfl, hok⟩]
    unfold hexV
    rw [e2, e3, e4, e5]
    omega
  have hh : ¬ halfU (uV (u4 c ++ r)) := by rw [hu]; unfold halfU; omega
  have hp : ¬ pairOk (uV (u4 c ++ r)) (uV ((u4 c ++ r).drop 6)) := fun q => by have := q.1; rw [hu] at this; omega
  refine ⟨?_, ?_, ?_, ?_⟩
  · unfold dcW escW uniW
    rw [if_pos h0, if_pos h1, if_neg hp]
  · unfold dcC escC uniC
    rw [if_pos h0, h1, if_neg (by decide), if_neg (by decide), if_neg (by decide), if_neg (by decide), if_neg (by decide), if_pos rfl, if_neg hh, hu]
    unfold Lib.encodeRune
    rw [Lib.encodeRuneZ_one (by omega) (by omega)]
    rfl
  · unfold okPc
    rw [if_pos h0, decide_eq_true_iff, h1, hu]
    exact ⟨by rw [List.length_append, u4_length]; omega, by omega⟩
  · unfold neatC
    rw [if_pos h0, decide_eq_false (fun q => hh q.2.1)]
    rfl
/-- A piece that is no escape. -/
theorem raw_piece (q r : List UInt8) (hq : 0 < q.length) (h0 : ¬ natL q 0 = 92) (h34 : ¬ natL q 0 = 34) (h32 : 32 ≤ natL q 0) (hr : ¬ rlL q = 0) (hw : decW q = q.length) :
    dcW (q ++ r) = q.length ∧ dcC (q ++ r) = q ∧ okPc (q ++ r) = true ∧ neatC (q ++ r) = true := by
  have hl := rlL_local q r hq hr
  rw [hw, List.take_length] at hl
  have hn : natL (q ++ r) 0 = natL q 0 := by
    unfold natL
    rw [List.getD_eq_getElem?_getD, List.getD_eq_getElem?_getD, List.getElem?_append_left hq]
  have hd : decW (q ++ r) = q.length := by unfold decW; rw [hl]; exact hw
  refine ⟨?_, ?_, ?_, ?_⟩
  · unfold dcW; rw [hn, if_neg h0, hd]
  · unfold dcC mendC
    rw [hn, if_neg h0, hl, if_neg hr, hd, List.take_left']
    rfl
  · unfold okPc; rw [hn, if_neg h0, decide_eq_true_iff]; exact ⟨h34, h32⟩
  · unfold neatC; rw [hn, if_neg h0, hl, decide_eq_true_iff]; exact hr
theorem byte_is {l : List UInt8} {k n : Nat} (x : UInt8) (h : natL l k = n) (hx : x.toNat = n) : l.getD k 0 = x := UInt8.toNat_inj.1 (by unfold natL at h; omega)
theorem back_piece (l r : List UInt8) (h : 0 < l.length) : 0 < (qpiece false false l).length ∧ dcW (qpiece false false l ++ r) = (qpiece false false l).length ∧ dcC (qpiece false false l ++ r) = mendC l ∧ okPc (qpiece false false l ++ r) = true ∧ neatC (qpiece false false l ++ r) = true := by
  by_cases h128 : natL l 0 < 128
  · obtain ⟨r1, w1⟩ := decW_ascii l h128
    have hm : mendC l = [l.getD 0 0] := by
      unfold mendC
      rw [r1, if_neg (by decide), w1, takeD1 l h]
    by_cases hmu : mustA (natL l 0) = true
    · rw [qpiece_esc false false l h128 (.inl hmu), hm]
      generalize hc : natL l 0 = c at *
      have two : ∀ (x y : UInt8), escA c = [92, x] → (x.toNat = 34 ∨ x.toNat = 92 ∨ x.toNat = 98 ∨ x.toNat = 102 ∨ x.toNat = 110 ∨ x.toNat = 114 ∨ x.toNat = 116) → y.toNat = c → escC (92 :: x :: r) = [y] → 0 < (escA c).length ∧ dcW (escA c ++ r) = (escA c).length ∧ dcC (escA c ++ r) = [l.getD 0 0] ∧ okPc (escA c ++ r) = true ∧ neatC (escA c ++ r) = true := fun x y e hx hy hec => by
        rw [e, byte_is y hc hy]
        obtain ⟨a, b, d⟩ := two_piece x r hx
        refine ⟨by simp, a, ?_, b, d⟩
        show dcC (92 :: x :: r) = [y]
        unfold dcC
        rw [if_pos (show natL (92 :: x :: r) 0 = 92 from rfl)]
        exact hec
      by_cases c34 : c = 34
      · exact two 34 34 (by subst c34; rfl) (by decide) (by subst c34; rfl) rfl
      · by_cases c92 : c = 92
        · exact two 92 92 (by subst c92; rfl) (by decide) (by subst c92; rfl) rfl
        · have c32 : c < 32 := by
            unfold mustA at hmu
            simp only [Bool.or_eq_true, decide_eq_true_eq, beq_iff_eq] at hmu
            omega
          by_cases c8 : c = 8
          · exact two 98 8 (by subst c8; rfl) (by decide) (by subst c8; rfl) rfl
          · by_cases c12 : c = 12
            · exact two 102 12 (by subst c12; rfl) (by decide) (by subst c12; rfl) rfl
            · by_cases c10 : c = 10
              · exact two 110 10 (by subst c10; rfl) (by decide) (by subst c10; rfl) rfl
              · by_cases c13 : c = 13
                · exact two 114 13 (by subst c13; rfl) (by decide) (by subst c13; rfl) rfl
                · by_cases c9 : c = 9
                  · exact two 116 9 (by subst c9; rfl) (by decide) (by subst c9; rfl) rfl
                  · have e : escA c = u4 c := by unfold escA; rw [if_neg c34, if_neg c92, if_neg c8, if_neg c12, if_neg c10, if_neg c13, if_neg c9]
                    rw [e]
                    obtain ⟨a, b, d, f⟩ := u_piece c c32 r
                    refine ⟨by rw [u4_length]; decide, by rw [u4_length]; exact a, ?_, d, f⟩
                    rw [b, byteOfD l 0 (c : Int) (by rw [hc])]
    · have hmf : mustA (natL l 0) = false := by simpa using hmu
      rw [qpiece_plain false false l h128 hmf (.inl rfl)]
      have ht : l.take 1 = [l.getD 0 0] := takeD1 l h
      have hn : natL (l.take 1) 0 = natL l 0 := by rw [ht]; rfl
      unfold mustA at hmf
      simp only [Bool.or_eq_false_iff, decide_eq_false_iff_not, beq_eq_false_iff_ne] at hmf
      have hd := decW_ascii (l.take 1) (by rw [hn]; exact h128)
      have hl1 : (l.take 1).length = 1 := by rw [ht]; rfl
      obtain ⟨a, b, d, f⟩ := raw_piece (l.take 1) r (by rw [hl1]; decide) (by rw [hn]; exact hmf.2) (by rw [hn]; exact hmf.1.2) (by rw [hn]; omega) (by rw [hd.1]; decide) (by rw [hd.2, hl1])
      exact ⟨by rw [hl1]; decide, a, by rw [b, hm, ht], d, f⟩
  · by_cases h0 : rlL l = 0
    · rw [qpiece_bad false false l h128 h0]
      obtain ⟨a, b, d, f⟩ := raw_piece BR r (by decide) (by decide) (by decide) (by decide) (by decide) (by decide)
      exact ⟨by decide, a, by rw [b]; unfold mendC; rw [if_pos h0], d, f⟩
    · rw [qpiece_wide false false l h128 h0 (.inl rfl)]
      have hw := decW_range l h
      have hlen : (l.take (decW l)).length = decW l := by rw [List.length_take]; omega
      have hr : rlL (l.take (decW l)) = rlL l := by have := rlL_local l [] h h0; rwa [List.append_nil] at this
      have key : ∀ q : List UInt8, rlL q = rlL l → decW q = decW l := fun q e => by unfold decW; rw [e]
      have hn : natL (l.take (decW l)) 0 = natL l 0 := by have := take_app l [] (decW l) 0 (by omega) hw.2.2; rwa [List.append_nil] at this
      obtain ⟨a, b, d, f⟩ := raw_piece (l.take (decW l)) r (by omega) (by rw [hn]; omega) (by rw [hn]; omega) (by rw [hn]; omega) (by rw [hr]; exact h0) (by rw [hlen]; exact key _ hr)
      exact ⟨by omega, a, by rw [b]; unfold mendC; rw [if_neg h0], d, f⟩
/-- All of it. -/
theorem quote_back : ∀ (n : Nat) (l : List UInt8), l.length ≤ n → okL (runF (qpiece false false) 0 l) = true ∧ neatL (runF (qpiece false false) 0 l) = true ∧ dcL (runF (qpiece false false) 0 l) = mendL l
  | 0, l, hl => by
    obtain rfl : l = [] := List.eq_nil_of_length_eq_zero (by omega)
    exact ⟨rfl, rfl, rfl⟩
  | n + 1, l, hl => by
    by_cases h : 0 < l.length
    · have hw := decW_range l h
      obtain ⟨p0, pw, pc, pk, pn⟩ := back_piece l (runF (qpiece false false) 0 (l.drop (decW l))) h
      obtain ⟨i1, i2, i3⟩ := quote_back n (l.drop (decW l)) (by rw [List.length_drop]; omega)
      rw [runF_step _ _ h]
      generalize hX : qpiece false false l = X at *
      generalize hY : runF (qpiece false false) 0 (l.drop (decW l)) = Y at *
      have hpos : 0 < (X ++ Y).length := by rw [List.length_append]; omega
      have hdr : (X ++ Y).drop X.length = Y := List.drop_left' rfl
      refine ⟨?_, ?_, ?_⟩
      · unfold okL
        rw [allW_step _ _ _ hpos (dcW_pos _ hpos), pw, hdr, pk]
        exact i1
      · rw [neatL_step _ hpos, pw, hdr, pn]
        exact i2
      · rw [dcL_step _ hpos, pw, hdr, pc, i3]
        unfold mendL
        rw [runF_step _ _ h]
    · obtain rfl : l = [] := List.eq_nil_of_length_eq_zero (by omega)
      exact ⟨rfl, rfl, rfl⟩
theorem quoteL_qT (l : List UInt8) : [34] ++ runF (qpiece false false) 0 l ++ [34] = qT (runF (qpiece false false) 0 l) := by simp [qT]
end Go.Proofs.YtldcoaigecnpfaaDoor
