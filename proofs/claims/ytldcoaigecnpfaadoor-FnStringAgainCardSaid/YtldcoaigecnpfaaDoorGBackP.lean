/- Plain words: what is quoted stands for the string itself, with what is no character replaced. Of no program. Plain words: a string all of whose pieces are written in the canonical way is written so again when it is unquoted and quoted. Of no program. -/
import Derived.Test.YtldcoaigecnpfaaDoorGLaidEsc
import Derived.Test.YtldcoaigecnpfaaDoorGUInv
import Derived.Test.YtldcoaigecnpfaaDoorGRdQuoted
import Derived.Test.YtldcoaigecnpfaaDoorGWidth
namespace Go.Proofs.YtldcoaigecnpfaaDoor
open Go.RowKit
theorem u4_low : ∀ c : Fin 32, hx (atL (u4 c.val) 2) = 0 ∧ hx (atL (u4 c.val) 3) = 0 ∧ 0 ≤ hx (atL (u4 c.val) 4) ∧ 0 ≤ hx (atL (u4 c.val) 5) ∧ hx (atL (u4 c.val) 4) * 16 + hx (atL (u4 c.val) 5) = (c.val : Int) := by decide
theorem u_piece (c : Nat) (hc : c < 32) (r : List UInt8) : dcW (u4 c ++ r) = 6 ∧ dcC (u4 c ++ r) = [((c : Int)).toNat.toUInt8] ∧ okPc (u4 c ++ r) = true ∧ neatC (u4 c ++ r) = true := by
  have hul : hx (atL (u4 c) 2) = 0 ∧ hx (atL (u4 c) 3) = 0 ∧ 0 ≤ hx (atL (u4 c) 4) ∧ 0 ≤ hx (atL (u4 c) 5) ∧ hx (atL (u4 c) 4) * 16 + hx (atL (u4 c) 5) = (c : Int) := u4_low ⟨c, hc⟩
  obtain ⟨a2, a3, a4, a5, a6⟩ := hul
  have h0 : natL (u4 c ++ r) 0 = 92 := rfl
  have h1 : natL (u4 c ++ r) 1 = 117 := rfl
  have e2 : atL (u4 c ++ r) 2 = atL (u4 c) 2 := rfl
  have e3 : atL (u4 c ++ r) 3 = atL (u4 c) 3 := rfl
  have e4 : atL (u4 c ++ r) 4 = atL (u4 c) 4 := rfl
  have e5 : atL (u4 c ++ r) 5 = atL (u4 c) 5 := rfl
  have hok : hexOk (u4 c ++ r) := by unfold hexOk; rw [e2, e3, e4, e5]; omega
  have hu : uV (u4 c ++ r) = c := by
    unfold uV
    rw [if_pos ⟨by rw [List.length_append, u4_length]; omega, rfl, rfl, hok⟩]
    unfold hexV
    rw [e2, e3, e4, e5]
    omega
  have hh : ¬ halfU (uV (u4 c ++ r)) := by rw [hu]; unfold halfU; omega
  have hp : ¬ pairOk (uV (u4 c ++ r)) (uV ((u4 c ++ r).drop 6)) := fun q => by have := q.1; rw [hu] at this; omega
  refine ⟨?_, ?_, ?_, ?_⟩
  · unfold dcW escW uniW
    rw [if_pos h0, if_pos h1, if_neg hp]
  · unfold dcC escC uniC
    rw [if_pos h0, h1, if_neg (by decide), if_neg (by decide), if_neg (by decide), if_neg (by decide), if_neg (by decide), if_pos rfl, if_neg hh, hu]
    unfold Lib.encodeRune
    rw [Lib.encodeRuneZ_one (by omega) (by omega)]
    rfl
  · unfold okPc
    rw [if_pos h0, decide_eq_true_iff, h1, hu]
    exact ⟨by rw [List.length_append, u4_length]; omega, by omega⟩
  · unfold neatC
    rw [if_pos h0, decide_eq_false (fun q => hh q.2.1)]
    rfl
theorem byte_is {l : List UInt8} {k n : Nat} (x : UInt8) (h : natL l k = n) (hx : x.toNat = n) : l.getD k 0 = x := UInt8.toNat_inj.1 (by unfold natL at h; omega)
end Go.Proofs.YtldcoaigecnpfaaDoor
namespace Go.Proofs.YtldcoaigecnpfaaDoor
open Go.RowKit
theorem ext_natL : ∀ (a b : List UInt8), a.length = b.length → (∀ j, j < a.length → natL a j = natL b j) → a = b
  | [], [], _, _ => rfl
  | [], _ :: _, h, _ => by simp at h
  | _ :: _, [], h, _ => by simp at h
  | x :: a, y :: b, h, hj => by
    have h0 : x.toNat = y.toNat := hj 0 (by simp)
    rw [UInt8.toNat_inj.1 h0, ext_natL a b (by simpa using h) (fun j q => hj (j + 1) (by simpa using q))]
theorem natL_takeC (l : List UInt8) (k j : Nat) (h : j < k) : natL (l.take k) j = natL l j := by
  unfold natL
  rw [List.getD_eq_getElem?_getD, List.getD_eq_getElem?_getD, List.getElem?_take, if_pos h]
/-- One byte that is escaped. -/
theorem esc_step (x : UInt8) (h : x.toNat < 32 ∨ x.toNat = 34 ∨ x.toNat = 92) (r : List UInt8) : runF (qpiece false false) 0 ([x] ++ r) = escA x.toNat ++ runF (qpiece false false) 0 r := by
  have h0 : natL (x :: r) 0 = x.toNat := rfl
  have hd := decW_ascii (x :: r) (by rw [h0]; omega)
  show runF (qpiece false false) 0 (x :: r) = _
  rw [runF_step _ _ (by simp), hd.2, qpiece_esc false false (x :: r) (by rw [h0]; omega) (Or.inl (by rw [h0]; unfold mustA; simp; omega)), h0]
  rfl
theorem u4_digits : ∀ c : Fin 32, natL (u4 c.val) 0 = 92 ∧ natL (u4 c.val) 1 = 117 ∧ natL (u4 c.val) 2 = 48 ∧ natL (u4 c.val) 3 = 48 ∧ natL (u4 c.val) 4 = 48 + c.val / 16 ∧ natL (u4 c.val) 5 = (if c.val % 16 < 10 then 48 + c.val % 16 else 87 + c.val % 16) := by decide
theorem hx_low {c : Int} {d : Int} (h : hx c = d) (h0 : 0 ≤ d) (h1 : d ≤ 9) : c = 48 + d := by
  unfold hx at h
  (repeat' split at h) <;> omega
theorem hx_any {c : Int} {d : Int} (h : hx c = d) (h0 : 0 ≤ d) (hu : ¬ upHex c) : c = if d < 10 then 48 + d else 87 + d := by
  unfold upHex at hu
  unfold hx at h
  (repeat' split at h) <;> split <;> omega
/-- A canonical escape by digits. -/
theorem can_u4 (l : List UInt8) (hu : 0 ≤ uV l) (hc : canU l) : l.take 6 = u4 (uV l).toNat ∧ (uV l).toNat < 32 := by
  obtain ⟨l6, a0, a1, hk⟩ := uV_ok hu
  have hv : uV l = hexV l := by unfold uV; rw [if_pos ⟨l6, a0, a1, hk⟩]
  obtain ⟨c1, _, _, _, _, _, u2, u3, u4', u5⟩ := hc
  obtain ⟨p2, p3, p4, p5⟩ := hk
  have r2 := hx_range (atL l 2)
  have r3 := hx_range (atL l 3)
  have r4 := hx_range (atL l 4)
  have r5 := hx_range (atL l 5)
  rw [hv] at c1 ⊢
  have e : hexV l = ((hx (atL l 2) * 16 + hx (atL l 3)) * 16 + hx (atL l 4)) * 16 + hx (atL l 5) := rfl
  rw [e] at c1
  have z2 : hx (atL l 2) = 0 := by omega
  have z3 : hx (atL l 3) = 0 := by omega
  obtain ⟨d4, hd4⟩ : ∃ d, hx (atL l 4) = d := ⟨_, rfl⟩
  obtain ⟨d5, hd5⟩ : ∃ d, hx (atL l 5) = d := ⟨_, rfl⟩
  have k2 := hx_low z2 (by omega) (by omega)
  have k3 := hx_low z3 (by omega) (by omega)
  have k4 := hx_low hd4 (by omega) (by omega)
  have k5 := hx_any hd5 (by omega) u5
  have e2 : hexV l = d4 * 16 + d5 := by rw [e, z2, z3, hd4, hd5]; omega
  rw [natL_at] at a0 a1 k2 k3 k4 k5
  rw [e2]
  have hlt : (d4 * 16 + d5).toNat < 32 := by omega
  refine ⟨?_, hlt⟩
  have hd := u4_digits ⟨(d4 * 16 + d5).toNat, hlt⟩
  simp only at hd
  obtain ⟨q0, q1, q2, q3, q4, q5⟩ := hd
  refine ext_natL _ _ (by rw [List.length_take, u4_length]; omega) (fun j hj => ?_)
  rw [List.length_take] at hj
  rw [natL_takeC l 6 j (by omega)]
  rcases (show j = 0 ∨ j = 1 ∨ j = 2 ∨ j = 3 ∨ j = 4 ∨ j = 5 by omega) with rfl | rfl | rfl | rfl | rfl | rfl
  · rw [q0]; omega
  · rw [q1]; omega
  · rw [q2]; omega
  · rw [q3]; omega
  · rw [q4]; omega
  · rw [q5]
    split at k5 <;> split <;> omega
theorem take2 (l : List UInt8) (x : UInt8) (hl : 2 ≤ l.length) (h0 : natL l 0 = 92) (h1 : natL l 1 = x.toNat) : l.take 2 = [92, x] := by
  refine ext_natL _ _ (by rw [List.length_take]; simp; omega) (fun j hj => ?_)
  rw [List.length_take] at hj
  rw [natL_takeC l 2 j (by omega)]
  rcases (show j = 0 ∨ j = 1 by omega) with rfl | rfl
  · rw [h0]; rfl
  · rw [h1]; rfl
/-- A canonical piece. -/
theorem can_piece (l : List UInt8) (hl : 0 < l.length) (hok : okPc l = true) (hc : canC l = true) (r : List UInt8) : runF (qpiece false false) 0 (dcC l ++ r) = l.take (dcW l) ++ runF (qpiece false false) 0 r := by
  by_cases h92 : natL l 0 = 92
  · unfold okPc at hok
    rw [if_pos h92, decide_eq_true_iff] at hok
    unfold canC at hc
    rw [if_pos h92, decide_eq_true_iff] at hc
    have eC : dcC l = escC l := by unfold dcC; rw [if_pos h92]
    have eW : dcW l = escW l := by unfold dcW; rw [if_pos h92]
    rw [eC, eW]
    rcases hok.2 with q | q | q | q | q | q | q | q | ⟨q, hu⟩
    · have e1 : escC l = [34] := by
        unfold escC
        rw [q, if_neg (by decide), if_neg (by decide), if_neg (by decide), if_neg (by decide), if_neg (by decide), if_neg (by decide), byte_is 34 q rfl]
      have e2 : escW l = 2 := by unfold escW; rw [q]; rfl
      rw [e1, e2, esc_step 34 (by decide), take2 l 34 hok.1 h92 q]; rfl
    · have e1 : escC l = [92] := by
        unfold escC
        rw [q, if_neg (by decide), if_neg (by decide), if_neg (by decide), if_neg (by decide), if_neg (by decide), if_neg (by decide), byte_is 92 q rfl]
      have e2 : escW l = 2 := by unfold escW; rw [q]; rfl
      rw [e1, e2, esc_step 92 (by decide), take2 l 92 hok.1 h92 q]; rfl
    · exact absurd q hc.1
    · have e1 : escC l = [8] := by unfold escC; rw [q]; rfl
      have e2 : escW l = 2 := by unfold escW; rw [q]; rfl
      rw [e1, e2, esc_step 8 (by decide), take2 l 98 hok.1 h92 q]; rfl
    · have e1 : escC l = [12] := by unfold escC; rw [q]; rfl
      have e2 : escW l = 2 := by unfold escW; rw [q]; rfl
      rw [e1, e2, esc_step 12 (by decide), take2 l 102 hok.1 h92 q]; rfl
    · have e1 : escC l = [10] := by unfold escC; rw [q]; rfl
      have e2 : escW l = 2 := by unfold escW; rw [q]; rfl
      rw [e1, e2, esc_step 10 (by decide), take2 l 110 hok.1 h92 q]; rfl
    · have e1 : escC l = [13] := by unfold escC; rw [q]; rfl
      have e2 : escW l = 2 := by unfold escW; rw [q]; rfl
      rw [e1, e2, esc_step 13 (by decide), take2 l 114 hok.1 h92 q]; rfl
    · have e1 : escC l = [9] := by unfold escC; rw [q]; rfl
      have e2 : escW l = 2 := by unfold escW; rw [q]; rfl
      rw [e1, e2, esc_step 9 (by decide), take2 l 116 hok.1 h92 q]; rfl
    · have hcu := hc.2 q
      obtain ⟨t6, c32⟩ := can_u4 l hu hcu
      obtain ⟨_, n8, n12, n10, n13, n9, _⟩ := hcu
      obtain ⟨c, hce⟩ : ∃ c, c = (uV l).toNat := ⟨_, rfl⟩
      rw [← hce] at t6 c32
      have hcv : uV l = (c : Int) := by omega
      have ht : l = u4 c ++ l.drop 6 := by rw [← t6, List.take_append_drop]
      have hp := u_piece c c32 (l.drop 6)
      rw [← ht] at hp
      have hw : escW l = 6 := by rw [← eW]; exact hp.1
      have hcc : escC l = [((c : Int)).toNat.toUInt8] := by rw [← eC]; exact hp.2.1
      have hx : ((c : Int)).toNat.toUInt8 = UInt8.ofNat c := rfl
      have hxn : (UInt8.ofNat c).toNat = c := by simp; omega
      have hes : escA c = u4 c := by
        unfold escA
        rw [if_neg (by omega), if_neg (by omega), if_neg (by omega), if_neg (by omega), if_neg (by omega), if_neg (by omega), if_neg (by omega)]
      rw [hw, hcc, hx, esc_step (UInt8.ofNat c) (by rw [hxn]; omega), hxn, t6, hes]
  · unfold okPc at hok
    rw [if_neg h92, decide_eq_true_iff] at hok
    unfold canC at hc
    rw [if_neg h92, decide_eq_true_iff] at hc
    have hr := decW_range l hl
    have e1 : dcC l = l.take (decW l) := by unfold dcC mendC; rw [if_neg h92, if_neg hc]
    have e2 : dcW l = decW l := by unfold dcW; rw [if_neg h92]
    have hlen : (l.take (decW l)).length = decW l := by rw [List.length_take]; omega
    have hq : qpiece false false l = l.take (decW l) := by
      by_cases h128 : natL l 0 < 128
      · rw [qpiece_plain false false l h128 (by unfold mustA; simp; omega) (Or.inl rfl), (decW_ascii l h128).2]
      · rw [qpiece_wide false false l h128 hc (Or.inl rfl)]
    have ed : (l.take (decW l) ++ r).drop (decW l) = r := by rw [List.drop_append, hlen, Nat.sub_self, List.drop_zero, List.drop_of_length_le (by omega), List.nil_append]
    rw [e1, e2, runF_step _ _ (by rw [List.length_append]; omega), qpiece_take l r hl hc, hq, decW_local l r hl hc, ed]
theorem can_back : ∀ (n : Nat) (l : List UInt8), l.length ≤ n → okL l = true → canL l = true → runF (qpiece false false) 0 (dcL l) = l
  | _, [], _, _, _ => rfl
  | 0, _ :: _, h, _, _ => by simp at h
  | n + 1, c :: t, h, ho, hc => by
    have hl : 0 < (c :: t).length := by simp
    obtain ⟨o1, o2⟩ := okL_step ho hl
    rw [canL_step _ hl, Bool.and_eq_true] at hc
    have hw := dcW_pos (c :: t) hl
    rw [dcL_step _ hl, can_piece _ hl o1 hc.1, can_back n _ (by rw [List.length_drop]; simp at h ⊢; omega) o2 hc.2, List.take_append_drop]
theorem qT_eq (m : List UInt8) : qT m = [34] ++ m ++ [34] := by simp [qT]
end Go.Proofs.YtldcoaigecnpfaaDoor
