/- Plain words: a text with the five characters escaped, character by character, is the text escaped byte by byte. Of no program. -/
import Derived.Test.YtklncgmfbflooaaDoorQGen
import Derived.Test.YtklncgmfbflooaaDoorU4
import Derived.Test.YtklncgmfbflooaaDoorHtml
namespace Go.Proofs.YtklncgmfbflooaaDoor
open Go.RowKit
/-- A character by its escape, or as it stands. -/
def keptC (l : List UInt8) : List UInt8 :=
  if htmlC (natL l 0) = true then u4 (natL l 0) else if ¬ jsN l = 0 then u4 (jsN l) else l.take (decW l)
theorem keptC_length (l : List UInt8) (hl : 0 < l.length) : (keptC l).length ≤ 6 * decW l := by
  have := decW_range l hl
  unfold keptC
  split
  · rw [u4_length]; omega
  · split
    · rw [u4_length]; omega
    · rw [List.length_take]; omega
theorem u4_html : u4 60 = [92, 117, 48, 48, 51, 99] ∧ u4 62 = [92, 117, 48, 48, 51, 101] ∧ u4 38 = [92, 117, 48, 48, 50, 54] ∧ u4 8232 = [92, 117, 50, 48, 50, 56] ∧ u4 8233 = [92, 117, 50, 48, 50, 57] := by decide
/-- Bytes above ASCII that begin none of the two are passed as they stand. -/
theorem escF_high : ∀ (n : Nat) (l : List UInt8), n ≤ l.length → (∀ j, j < n → 128 ≤ natL l j ∧ ¬ natL l j = 226) → escF 0 l = l.take n ++ escF 0 (l.drop n)
  | 0, l, _, _ => by simp
  | n + 1, [], h, _ => by simp at h
  | n + 1, c :: r, h, hj => by
    have h0 := hj 0 (by omega)
    have hc : natL (c :: r) 0 = c.toNat := rfl
    rw [hc] at h0
    have e1 : ¬ c = 60 := fun e => by rw [e] at h0; exact absurd h0.1 (by decide)
    have e2 : ¬ c = 62 := fun e => by rw [e] at h0; exact absurd h0.1 (by decide)
    have e3 : ¬ c = 38 := fun e => by rw [e] at h0; exact absurd h0.1 (by decide)
    have e4 : ¬ c = 226 := fun e => by rw [e] at h0; exact h0.2 rfl
    rw [escF, if_neg e1, if_neg e2, if_neg e3, if_neg (fun z => e4 z.1), if_neg (fun z => e4 z.1), escF_high n r (by simpa using h) (fun j q => hj (j + 1) (by omega))]
    rfl
/-- Behind its first byte a character has bytes above ASCII alone, none of which begins a character. -/
theorem cont_high (l : List UInt8) (hl : 0 < l.length) (j : Nat) (hj : j + 1 < decW l) : 128 ≤ natL l (j + 1) ∧ ¬ natL l (j + 1) = 226 := by
  have hr := rlL_range l hl
  have h0 : ¬ rlL l = 0 := fun z => by unfold decW at hj; rw [if_pos z] at hj; omega
  have hd : (decW l : Int) = rlL l := by unfold decW; rw [if_neg h0]; omega
  have hx : rlL l = rl l.length (atL l 0) (atL l 1) (atL l 2) (atL l 3) := rfl
  have a1 : atL l 1 = (natL l 1 : Int) := rfl
  have a2 : atL l 2 = (natL l 2 : Int) := rfl
  have a3 : atL l 3 = (natL l 3 : Int) := rfl
  rw [hx] at hd h0
  unfold rl at hd h0
  have q : j = 0 ∨ j = 1 ∨ j = 2 := by omega
  rcases q with rfl | rfl | rfl
  all_goals
    simp only [Nat.zero_add, Nat.reduceAdd] at hj ⊢
    (repeat' split at hd) <;> omega
theorem byte_of {l : List UInt8} {c : UInt8} {r : List UInt8} (hl : l = c :: r) (b : UInt8) : c = b ↔ natL l 0 = b.toNat := by
  subst hl
  constructor
  · intro e; rw [e]; rfl
  · intro e; exact UInt8.toNat_inj.1 e
theorem take2 (r : List UInt8) (x y : UInt8) : r.take 2 = [x, y] ↔ natL r 0 = x.toNat ∧ natL r 1 = y.toNat ∧ 2 ≤ r.length := by
  match r with
  | [] => simp
  | [a] => simp
  | a :: b :: t =>
    have h0 : natL (a :: b :: t) 0 = a.toNat := rfl
    have h1 : natL (a :: b :: t) 1 = b.toNat := rfl
    rw [h0, h1]
    constructor
    · intro e
      simp only [List.take_succ_cons, List.take_zero, List.cons.injEq, and_true] at e
      exact ⟨by rw [e.1], by rw [e.2], by simp⟩
    · rintro ⟨e1, e2, _⟩
      simp only [List.take_succ_cons, List.take_zero, List.cons.injEq, and_true]
      exact ⟨UInt8.toNat_inj.1 e1, UInt8.toNat_inj.1 e2⟩
theorem escF_skip : ∀ (k : Nat) (r : List UInt8), escF k r = escF 0 (r.drop k)
  | 0, r => by simp
  | k + 1, [] => by simp [escF]
  | k + 1, _ :: r => by rw [escF, escF_skip k r]; rfl
/-- One character of it. -/
theorem escF_step (l : List UInt8) (hl : 0 < l.length) : escF 0 l = keptC l ++ escF 0 (l.drop (decW l)) := by
  cases hc : l with
  | nil => rw [hc] at hl; simp at hl
  | cons c r =>
    rw [← hc]
    have hlen : l.length = r.length + 1 := by rw [hc]; simp
    have hn0 : natL l 0 = c.toNat := by rw [hc]; rfl
    have hns : ∀ j, natL r j = natL l (j + 1) := fun j => by rw [hc]; rfl
    have hub : c.toNat < 256 := c.toNat_lt
    have hw := decW_range l hl
    unfold keptC
    by_cases h60 : natL l 0 = 60
    · have e : c = 60 := (byte_of hc 60).2 h60
      have hd := decW_ascii l (by omega)
      rw [if_pos (by rw [h60]; rfl), h60, hd.2, u4_html.1]
      rw [hc, escF, if_pos e]; rfl
    · have e60 : ¬ c = 60 := fun z => h60 ((byte_of hc 60).1 z)
      by_cases h62 : natL l 0 = 62
      · have e : c = 62 := (byte_of hc 62).2 h62
        have hd := decW_ascii l (by omega)
        rw [if_pos (by rw [h62]; rfl), h62, hd.2, u4_html.2.1]
        rw [hc, escF, if_neg e60, if_pos e]; rfl
      · have e62 : ¬ c = 62 := fun z => h62 ((byte_of hc 62).1 z)
        by_cases h38 : natL l 0 = 38
        · have e : c = 38 := (byte_of hc 38).2 h38
          have hd := decW_ascii l (by omega)
          rw [if_pos (by rw [h38]; rfl), h38, hd.2, u4_html.2.2.1]
          rw [hc, escF, if_neg e60, if_neg e62, if_pos e]; rfl
        · have e38 : ¬ c = 38 := fun z => h38 ((byte_of hc 38).1 z)
          have hh : ¬ htmlC (natL l 0) = true := by unfold htmlC; simp [h60, h62, h38]
          rw [if_neg hh]
          by_cases h226 : natL l 0 = 226
          · have e226 : c = 226 := (byte_of hc 226).2 h226
            by_cases hj8 : natL l 1 = 128 ∧ natL l 2 = 168
            · have hj : jsN l = 8232 := by unfold jsN; rw [if_pos ⟨h226, hj8.1, hj8.2⟩]
              have hlen3 : 3 ≤ l.length := by
                rcases Nat.lt_or_ge 2 l.length with q | q
                · omega
                · have := hj8.2; unfold natL at this; rw [List.getD_eq_getElem?_getD, List.getElem?_eq_none q] at this; simp at this
              have hrl : rlL l = 3 := by
                unfold rlL rl
                rw [natL_at, natL_at, natL_at, h226, hj8.1, hj8.2]
                rw [if_neg (by decide), if_neg (by decide), if_pos (by decide), if_pos (by refine ⟨by omega, by decide, by decide, by decide, by decide, by decide, by decide⟩)]
              have hd : decW l = 3 := by unfold decW; rw [hrl]; rfl
              have ht : r.take 2 = [128, 168] := (take2 r 128 168).2 ⟨by rw [hns]; exact hj8.1, by rw [hns]; exact hj8.2, by omega⟩
              rw [if_pos (by rw [hj]; decide), hj, hd, u4_html.2.2.2.1]
              rw [hc, escF, if_neg e60, if_neg e62, if_neg e38, if_pos ⟨e226, ht⟩, escF_skip]; rfl
            · by_cases hj9 : natL l 1 = 128 ∧ natL l 2 = 169
              · have hj : jsN l = 8233 := by unfold jsN; rw [if_neg (fun z => hj8 z.2), if_pos ⟨h226, hj9.1, hj9.2⟩]
                have hlen3 : 3 ≤ l.length := by
                  rcases Nat.lt_or_ge 2 l.length with q | q
                  · omega
                  · have := hj9.2; unfold natL at this; rw [List.getD_eq_getElem?_getD, List.getElem?_eq_none q] at this; simp at this
                have hrl : rlL l = 3 := by
                  unfold rlL rl
                  rw [natL_at, natL_at, natL_at, h226, hj9.1, hj9.2]
                  rw [if_neg (by decide), if_neg (by decide), if_pos (by decide), if_pos (by refine ⟨by omega, by decide, by decide, by decide, by decide, by decide, by decide⟩)]
                have hd : decW l = 3 := by unfold decW; rw [hrl]; rfl
                have ht : r.take 2 = [128, 169] := (take2 r 128 169).2 ⟨by rw [hns]; exact hj9.1, by rw [hns]; exact hj9.2, by omega⟩
                have ht8 : ¬ r.take 2 = [128, 168] := fun z => hj8 (by have := (take2 r 128 168).1 z; rw [hns, hns] at this; exact ⟨this.1, this.2.1⟩)
                rw [if_pos (by rw [hj]; decide), hj, hd, u4_html.2.2.2.2]
                rw [hc, escF, if_neg e60, if_neg e62, if_neg e38, if_neg (fun z => ht8 z.2), if_pos ⟨e226, ht⟩, escF_skip]; rfl
              · have hj : jsN l = 0 := by unfold jsN; rw [if_neg (fun z => hj8 z.2), if_neg (fun z => hj9 z.2)]
                rw [if_neg (by rw [hj]; decide)]
                have ht8 : ¬ r.take 2 = [128, 168] := fun z => hj8 (by have := (take2 r 128 168).1 z; rw [hns, hns] at this; exact ⟨this.1, this.2.1⟩)
                have ht9 : ¬ r.take 2 = [128, 169] := fun z => hj9 (by have := (take2 r 128 169).1 z; rw [hns, hns] at this; exact ⟨this.1, this.2.1⟩)
                have h1 : escF 0 l = c :: escF 0 r := by rw [hc, escF, if_neg e60, if_neg e62, if_neg e38, if_neg (fun z => ht8 z.2), if_neg (fun z => ht9 z.2)]
                rw [h1, escF_high (decW l - 1) r (by omega) (fun j q => ?_)]
                · have e1 : l.take (decW l) = c :: r.take (decW l - 1) := by rw [hc]; obtain ⟨d, hd⟩ : ∃ d, decW (c :: r) = d + 1 := ⟨decW (c :: r) - 1, by rw [← hc]; omega⟩; rw [hd]; rfl
                  have e2 : l.drop (decW l) = r.drop (decW l - 1) := by rw [hc]; obtain ⟨d, hd⟩ : ∃ d, decW (c :: r) = d + 1 := ⟨decW (c :: r) - 1, by rw [← hc]; omega⟩; rw [hd]; rfl
                  rw [e1, e2]; rfl
                · exact cont_high l hl j (by omega) |> fun z => by rw [hns]; exact z
          · have hj : jsN l = 0 := by unfold jsN; rw [if_neg (fun z => h226 z.1), if_neg (fun z => h226 z.1)]
            have e226 : ¬ c = 226 := fun z => h226 ((byte_of hc 226).1 z)
            rw [if_neg (by rw [hj]; decide)]
            have h1 : escF 0 l = c :: escF 0 r := by rw [hc, escF, if_neg e60, if_neg e62, if_neg e38, if_neg (fun z => e226 z.1), if_neg (fun z => e226 z.1)]
            rw [h1, escF_high (decW l - 1) r (by omega) (fun j q => ?_)]
            · have e1 : l.take (decW l) = c :: r.take (decW l - 1) := by rw [hc]; obtain ⟨d, hd⟩ : ∃ d, decW (c :: r) = d + 1 := ⟨decW (c :: r) - 1, by rw [← hc]; omega⟩; rw [hd]; rfl
              have e2 : l.drop (decW l) = r.drop (decW l - 1) := by rw [hc]; obtain ⟨d, hd⟩ : ∃ d, decW (c :: r) = d + 1 := ⟨decW (c :: r) - 1, by rw [← hc]; omega⟩; rw [hd]; rfl
              rw [e1, e2]; rfl
            · exact cont_high l hl j (by omega) |> fun z => by rw [hns]; exact z
/-- Character by character, or byte by byte. -/
theorem kept_escF : ∀ (n : Nat) (l : List UInt8), l.length ≤ n → runF keptC 0 l = escF 0 l
  | _, [], _ => by rw [runF_nil]; rfl
  | 0, c :: r, h => by simp at h
  | n + 1, c :: r, h => by
    have hw := decW_range (c :: r) (by simp)
    rw [runF_step _ _ (by simp), escF_step _ (by simp), kept_escF n _ (by rw [List.length_drop]; simp only [List.length_cons] at h ⊢; omega)]
end Go.Proofs.YtklncgmfbflooaaDoor
