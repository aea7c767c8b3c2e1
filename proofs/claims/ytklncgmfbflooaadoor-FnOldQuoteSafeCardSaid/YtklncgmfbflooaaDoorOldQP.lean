/- Plain words: a character as it stands in a text that the old package quotes for HTML. Of no program. -/
import Derived.Test.YtklncgmfbflooaaDoorQGen
import Derived.Test.YtklncgmfbflooaaDoorU4
import Derived.Test.YtklncgmfbflooaaDoorLaidSafe
namespace Go.Proofs.YtklncgmfbflooaaDoor
open Go.RowKit
/-- A character of ASCII that is escaped. -/
def oesc (c : Nat) : List UInt8 := if c = 92 ∨ c = 34 then [92, UInt8.ofNat c] else if c = 8 then [92, 98] else if c = 12 then [92, 102] else if c = 10 then [92, 110] else if c = 13 then [92, 114] else if c = 9 then [92, 116] else [92, 117, 48, 48, UInt8.ofNat (hexd (c / 16)), UInt8.ofNat (hexd (c % 16))]
def opiece (l : List UInt8) : List UInt8 :=
  if natL l 0 < 128 then (if safeT (natL l 0) then l.take 1 else oesc (natL l 0))
  else if rlL l = 0 then [92, 117, 102, 102, 102, 100]
  else if jsN l = 0 then l.take (decW l)
  else u4 (jsN l)
theorem opiece_plain (l : List UInt8) (h : natL l 0 < 128) (h1 : safeT (natL l 0) = true) : opiece l = l.take 1 := by unfold opiece; rw [if_pos h, if_pos h1]
theorem opiece_esc (l : List UInt8) (h : natL l 0 < 128) (h1 : safeT (natL l 0) = false) : opiece l = oesc (natL l 0) := by unfold opiece; rw [if_pos h, if_neg (by rw [h1]; simp)]
theorem opiece_bad (l : List UInt8) (h : ¬ natL l 0 < 128) (h0 : rlL l = 0) : opiece l = [92, 117, 102, 102, 102, 100] := by unfold opiece; rw [if_neg h, if_pos h0]
theorem opiece_wide (l : List UInt8) (h : ¬ natL l 0 < 128) (h0 : ¬ rlL l = 0) (h1 : jsN l = 0) : opiece l = l.take (decW l) := by unfold opiece; rw [if_neg h, if_neg h0, if_pos h1]
theorem opiece_js (l : List UInt8) (h : ¬ natL l 0 < 128) (h0 : ¬ rlL l = 0) (h1 : ¬ jsN l = 0) : opiece l = u4 (jsN l) := by unfold opiece; rw [if_neg h, if_neg h0, if_neg h1]
theorem oesc_length (c : Nat) : (oesc c).length ≤ 6 := by unfold oesc; (repeat' split) <;> simp
theorem opiece_length (l : List UInt8) (hl : 0 < l.length) : (opiece l).length ≤ 6 * decW l := by
  have hw := decW_range l hl
  unfold opiece
  split
  · split
    · rw [List.length_take]; omega
    · have := oesc_length (natL l 0); omega
  · split
    · show 6 ≤ _; omega
    · split
      · rw [List.length_take]; omega
      · rw [u4_length]; omega
/-- What the decoder says of the head. -/
theorem dec_headO (l : List UInt8) (hl : 0 < l.length) :
    (rlL l = 0 → decN l = (65533, 1)) ∧ (¬ rlL l = 0 → ((decN l).2 : Int) = rlL l ∧ (128 ≤ natL l 0 → 2 ≤ decW l) ∧ ((decN l).1 = 8232 ↔ jsN l = 8232) ∧ ((decN l).1 = 8233 ↔ jsN l = 8233)) ∧ (decN l).2 = decW l ∧ (decN l).1 < 1114112 := by
  have h := dec_rl l.length (natL l 0) (natL l 1) (natL l 2) (natL l 3) hl (natL_lt _ _) (natL_lt _ _) (natL_lt _ _) (natL_lt _ _)
  have e : rl l.length (natL l 0) (natL l 1) (natL l 2) (natL l 3) = rlL l := rfl
  rw [e] at h
  have hw := decN_two l hl
  have hd : decN l = Go.Lib.decodeN l.length (natL l 0) (natL l 1) (natL l 2) (natL l 3) := rfl
  rw [← hd] at h
  refine ⟨h.1, fun h0 => ?_, hw, ?_⟩
  · obtain ⟨h1, h2, _, _, h4, h5⟩ := h.2 h0
    refine ⟨h1, fun hb => by have := (h2 hb).1; omega, ?_, ?_⟩
    · rw [h4]; unfold jsN
      constructor
      · intro q; rw [if_pos q]
      · intro q; split at q
        · assumption
        · split at q <;> omega
    · rw [h5]; unfold jsN
      constructor
      · intro q; rw [if_neg (by omega), if_pos q]
      · intro q; split at q
        · omega
        · split at q
          · assumption
          · omega
  · by_cases h0 : rlL l = 0
    · rw [h.1 h0]; omega
    · exact (h.2 h0).2.2.1
end Go.Proofs.YtklncgmfbflooaaDoor
