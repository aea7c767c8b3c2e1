/- Plain words: a value that begins and ends with a quotation mark is a string between two of them. Of no program. -/
import Derived.Test.YtklncgmfbflooaaDoorUInv
import Derived.Test.YtklncgmfbflooaaDoorRdGram
namespace Go.Proofs.YtklncgmfbflooaaDoor
open Go.RowKit
theorem skN_all {p : Int → Bool} {l : List UInt8} : ∀ (n k : Nat), l.length ≤ n + k → ∀ j, k ≤ j → j < skN p l k → p (atL l j) = true
  | 0, k, hn, j, h1, h2 => by
    have e : skN p l k = k := skN_at (fun z => by have := z.1; omega)
    omega
  | n + 1, k, hn, j, h1, h2 => by
    by_cases h : k < l.length ∧ p (atL l k) = true
    · by_cases q : j = k
      · rw [q]; exact h.2
      · rw [skN_step h.1 h.2] at h2
        exact skN_all n (k + 1) (by omega) j (by omega) h2
    · rw [skN_at h] at h2; omega
theorem atL_in {l : List UInt8} {k : Nat} (h : ¬ atL l k = 0) : k < l.length := by
  by_cases q : k < l.length
  · exact q
  · exact absurd (atL_none l k (by omega)) h
/-- Such a text. -/
theorem taken_str (T : List UInt8) (ht : takenB T = true) (h0 : atL T 0 = 34) (h1 : atL T (T.length - 1) = 34) : ∃ m, T = qT m ∧ okL m = true := by
  have hpos : 0 < T.length := atL_in (by rw [h0]; decide)
  have hsp : spN T 0 = 0 := skN_at (fun z => by
    have := z.2
    rw [h0] at this
    exact absurd this (by decide))
  unfold takenB at ht
  rw [decide_eq_true_iff] at ht
  obtain ⟨hv, hsl⟩ := ht
  have hse : seeP T 0 = 34 := by rw [seePat]; exact h0
  have eV : pV T 0 = if strQ true T 0 = 0 then 0 else strQ true T 0 + 1 := by
    rw [pV_eq (Nat.zero_le _), hsp, hse, if_neg (by decide), if_neg (by decide)]
    unfold scaN
    rw [hse, if_neg (by decide), if_neg (by decide), if_neg (by decide), if_pos rfl]
  rw [eV] at hv hsl
  by_cases q : strQ true T 0 = 0
  · rw [if_pos q] at hv; exact absurd rfl hv
  rw [if_neg q] at hv hsl
  obtain ⟨_, ha, hb, hc⟩ := strQ_range q
  have hq : strQ true T 0 = strN true T 1 := by unfold strQ; rw [if_pos hse]
  rw [hq] at ha hb hc hsl
  generalize he : strN true T 1 = e at *
  have hlast : e = T.length - 1 := by
    by_cases z : e + 1 < T.length
    · have := skN_all (p := fun c => decide (isSp c)) (l := T) T.length (e + 1) (by omega) (T.length - 1) (by omega) (by
        show _ < spN T (e + 1)
        rw [hsl]; omega)
      rw [h1] at this
      exact absurd this (by decide)
    · omega
  have hok := (str_ok (lo := true) hb hc T.length 1 (by omega) (by omega) he).1
  refine ⟨(T.take e).drop 1, ?_, hok⟩
  have hx : T.getD 0 0 = 34 := by
    unfold atL at h0
    exact UInt8.toNat_inj.1 (by have : (34 : UInt8).toNat = 34 := rfl; omega)
  have hy : T.getD e 0 = 34 := by
    unfold atL at hc
    exact UInt8.toNat_inj.1 (by have : (34 : UInt8).toNat = 34 := rfl; omega)
  have h3 : T = T.take e ++ T.drop e := (List.take_append_drop e T).symm
  have h4 : T.drop e = [34] := by
    rw [List.drop_eq_getElem_cons hb, List.drop_of_length_le (by omega)]
    rw [List.getD_eq_getElem?_getD, List.getElem?_eq_getElem hb] at hy
    simpa using hy
  have h5 : T.take e = 34 :: (T.take e).drop 1 := by
    have hl : 0 < (T.take e).length := by rw [List.length_take]; omega
    have := List.drop_eq_getElem_cons hl
    rw [List.drop_zero] at this
    rw [List.getD_eq_getElem?_getD, List.getElem?_eq_getElem hpos] at hx
    have e1 : (T.take e)[0] = 34 := by rw [List.getElem_take]; simpa using hx
    rw [e1] at this
    exact this
  unfold qT
  conv => lhs; rw [h3, h4, h5]
  simp
end Go.Proofs.YtklncgmfbflooaaDoor
