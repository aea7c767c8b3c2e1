/- What a row's list gives of the table of ASCII characters that are escaped. Plain words: a text that is written part by part, each character as it stands or by other bytes; the text of a string, character by character. -/
import Derived.Test.YtldcoaigecnpfaaDoorGQGen
import Derived.Test.YtldcoaigecnpfaaDoorGEsc16
import Derived.Test.YtldcoaigecnpfaaDoorProg
import Derived.Lib.LaidU8
import Derived.KernelRfl
namespace Go.Proofs.YtldcoaigecnpfaaDoor
open Go.Lib
/-- 1: escaped. -/
def escT (c : Nat) : Nat := if c < 32 ∨ c = 34 ∨ c = 38 ∨ c = 60 ∨ c = 62 ∨ c = 92 then 1 else 0
def escTab : List Int := (List.range 128).map fun c => (escT c : Int)
theorem nEsc : Tryd.prog.globalNamed "loop.example/pub-g01450/pub/jsontext_internal_jsonwire.escapeASCII" = some 0 := by kernel_rfl
theorem yEsc : (Tryd.prog.globals[0]?).map (·.type) = some 70 := by kernel_rfl
theorem cEsc : Tryd.prog.cellsOf 70 = 128 := by kernel_rfl
theorem cEscU8 : Tryd.prog.cellsOf 5 = 1 := by kernel_rfl
/-- The table, in memory. -/
def EscAt (w : World) : Prop := ∀ c, c < 128 → w.cell? ⟨0, c, none⟩ = some (.int .u8 (escT c))
theorem escAt {w : World} (h : VarReads Tryd.prog w "loop.example/pub-g01450/pub/jsontext_internal_jsonwire.escapeASCII" (tabData .u8 escTab)) : EscAt w := fun c hc => by
  obtain ⟨g, t, cs, fuel, p, hg, hty, hvar, hd⟩ := h
  obtain rfl := Option.some.inj (nEsc.symm.trans hg)
  obtain rfl := Option.some.inj (yEsc.symm.trans hty)
  have hcs := cells_of_tab Tryd.underlying70 Tryd.underlying5 cEscU8 cEsc hd
  have := World.var?_cell hg hvar c
  rw [this, ← Array.getElem?_toList, hcs]
  simp [escTab, hc]
end Go.Proofs.YtldcoaigecnpfaaDoor
namespace Go.Proofs.YtldcoaigecnpfaaDoor
open Go.RowKit
/-- A part of a row, to be appended. -/
theorem src_part {w : World} {g : Nat} {m : List UInt8} (h : BytesAt w g 0 m) (a b c : Nat) (hab : a ≤ b) (hb : b ≤ m.length) : Src w 23 (.slice (some ⟨g, a, none⟩) (b - a) c) ((m.drop a).take (b - a)) := by
  have hl : ((m.drop a).take (b - a)).length = b - a := by simp; omega
  have := Src.slice g a c ((m.drop a).take (b - a)) (w := w) (fun j hj => by
    rw [hl] at hj
    have e := h (a + j) (by omega)
    rw [Nat.zero_add] at e
    rw [e]
    unfold atL
    simp [List.getD_eq_getElem?_getD, hj])
  rw [hl] at this
  exact this
def mustA (c : Nat) : Bool := decide (c < 32) || c == 34 || c == 92
/-- A character as it stands in the text of a string. -/
def qpiece (html js : Bool) (l : List UInt8) : List UInt8 :=
  if natL l 0 < 128 then (if mustA (natL l 0) || (html && htmlC (natL l 0)) then escA (natL l 0) else l.take 1)
  else if rlL l = 0 then BR
  else if js && decide (¬ jsN l = 0) then u4 (jsN l)
  else l.take (decW l)
theorem qpiece_plain (html js : Bool) (l : List UInt8) (h : natL l 0 < 128) (h1 : mustA (natL l 0) = false) (h2 : html = false ∨ htmlC (natL l 0) = false) : qpiece html js l = l.take 1 := by
  unfold qpiece
  rw [if_pos h, h1]
  rcases h2 with rfl | h2
  · simp
  · rw [h2]; simp
theorem qpiece_esc (html js : Bool) (l : List UInt8) (h : natL l 0 < 128) (h1 : mustA (natL l 0) = true ∨ (html = true ∧ htmlC (natL l 0) = true)) : qpiece html js l = escA (natL l 0) := by
  unfold qpiece
  rw [if_pos h, if_pos]
  rcases h1 with h1 | ⟨rfl, h1⟩
  · rw [h1]; simp
  · rw [h1]; simp
theorem qpiece_bad (html js : Bool) (l : List UInt8) (h : ¬ natL l 0 < 128) (h0 : rlL l = 0) : qpiece html js l = BR := by
  unfold qpiece; rw [if_neg h, if_pos h0]
theorem qpiece_wide (html js : Bool) (l : List UInt8) (h : ¬ natL l 0 < 128) (h0 : ¬ rlL l = 0) (h1 : js = false ∨ jsN l = 0) : qpiece html js l = l.take (decW l) := by
  unfold qpiece; rw [if_neg h, if_neg h0, if_neg]
  rcases h1 with rfl | h1
  · simp
  · rw [h1]; simp
theorem qpiece_js (html : Bool) (l : List UInt8) (h : ¬ natL l 0 < 128) (h0 : ¬ rlL l = 0) (h1 : ¬ jsN l = 0) : qpiece html true l = u4 (jsN l) := by
  unfold qpiece; rw [if_neg h, if_neg h0, if_pos]
  simpa using h1
/-- What the decoder says of the head. -/
theorem dec_head (l : List UInt8) (hl : 0 < l.length) :
    (rlL l = 0 → decN l = (65533, 1)) ∧ (¬ rlL l = 0 → ((decN l).2 : Int) = rlL l ∧ (128 ≤ natL l 0 → 2 ≤ decW l) ∧ ((decN l).1 = 8232 ↔ jsN l = 8232) ∧ ((decN l).1 = 8233 ↔ jsN l = 8233)) ∧ (decN l).2 = decW l ∧ (decN l).1 < 1114112 := by
  have h := dec_rl l.length (natL l 0) (natL l 1) (natL l 2) (natL l 3) hl (natL_lt _ _) (natL_lt _ _) (natL_lt _ _) (natL_lt _ _)
  have e : rl l.length (natL l 0) (natL l 1) (natL l 2) (natL l 3) = rlL l := rfl
  rw [e] at h
  have hw := decN_two l hl
  have hd : decN l = Go.Lib.decodeN l.length (natL l 0) (natL l 1) (natL l 2) (natL l 3) := rfl
  rw [← hd] at h
  refine ⟨h.1, fun h0 => ?_, hw, ?_⟩
  · obtain ⟨h1, h2, _, _, h4, h5⟩ := h.2 h0
    refine ⟨h1, fun hb => by have := (h2 hb).1; omega, ?_, ?_⟩
    · rw [h4]; unfold jsN
      constructor
      · intro q; rw [if_pos q]
      · intro q; split at q
        · assumption
        · split at q <;> omega
    · rw [h5]; unfold jsN
      constructor
      · intro q; rw [if_neg (by omega), if_pos q]
      · intro q; split at q
        · omega
        · split at q
          · assumption
          · omega
  · by_cases h0 : rlL l = 0
    · rw [h.1 h0]; omega
    · exact (h.2 h0).2.2.1
theorem escT_must (c : Nat) (_h : c < 128) : escT c = if mustA c || htmlC c then 1 else 0 := by
  unfold escT mustA htmlC
  by_cases q : c < 32 ∨ c = 34 ∨ c = 38 ∨ c = 60 ∨ c = 62 ∨ c = 92
  · rw [if_pos q, if_pos]
    simp only [Bool.or_eq_true, decide_eq_true_eq, beq_iff_eq]
    omega
  · rw [if_neg q, if_neg]
    simp only [Bool.or_eq_true, decide_eq_true_eq, beq_iff_eq]
    omega
theorem qpiece_length (html js : Bool) (l : List UInt8) (hl : 0 < l.length) : (qpiece html js l).length ≤ 6 * decW l := by
  have hw := decW_range l hl
  unfold qpiece
  split
  · split
    · have := escA_length (natL l 0); omega
    · rw [List.length_take]; omega
  · split
    · show 3 ≤ _; omega
    · split
      · rw [u4_length]; omega
      · rw [List.length_take]; omega
end Go.Proofs.YtldcoaigecnpfaaDoor
