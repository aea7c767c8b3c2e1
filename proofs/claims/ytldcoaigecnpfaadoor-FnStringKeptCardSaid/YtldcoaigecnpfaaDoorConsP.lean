/- What ConsumeString keeps to, in plain words of no program: the pieces of a string, and whether each is written in the canonical way. -/
import Derived.Test.YtldcoaigecnpfaaDoorDcdG
namespace Go.Proofs.YtldcoaigecnpfaaDoor
open Go.RowKit
def upHex (c : Int) : Prop := 65 ≤ c ∧ c ≤ 70
instance (c : Int) : Decidable (upHex c) := by unfold upHex; infer_instance
/-- An escape by digits that is canonical: of a control character that has no short one, in lower case. -/
def canU (l : List UInt8) : Prop := uV l < 32 ∧ ¬ uV l = 8 ∧ ¬ uV l = 12 ∧ ¬ uV l = 10 ∧ ¬ uV l = 13 ∧ ¬ uV l = 9 ∧ ¬ upHex (atL l 2) ∧ ¬ upHex (atL l 3) ∧ ¬ upHex (atL l 4) ∧ ¬ upHex (atL l 5)
instance (l : List UInt8) : Decidable (canU l) := by unfold canU; infer_instance
/-- Whether the piece at the head is written in the canonical way. -/
def canC (l : List UInt8) : Bool := if natL l 0 = 92 then decide (¬ natL l 1 = 47 ∧ (natL l 1 = 117 → canU l)) else decide (¬ rlL l = 0)
def canL (l : List UInt8) : Bool := allW dcW canC 0 l
theorem canL_step (l : List UInt8) (h : 0 < l.length) : canL l = (canC l && canL (l.drop (dcW l))) := allW_step _ _ _ h (dcW_pos l h)
/-- Where the reading stands: M is the text up to its last quotation mark. -/
structure CsInv (lo : Bool) (M : List UInt8) (k : Nat) (cn : Bool) : Prop where
  le : k ≤ M.length
  ok : okL (M.drop k) = true
  neat : lo = false → neatL (M.drop k) = true
  can : cn = true → canL (M.drop k) = true → canL (M.drop 1) = true
theorem CsInv.pos {lo : Bool} {M : List UInt8} {k : Nat} {cn : Bool} (_h : CsInv lo M k cn) (hk : k < M.length) : 0 < (M.drop k).length := by rw [List.length_drop]; omega
theorem CsInv.okc {lo : Bool} {M : List UInt8} {k : Nat} {cn : Bool} (h : CsInv lo M k cn) (hk : k < M.length) : okPc (M.drop k) = true := (okL_step h.ok (h.pos hk)).1
theorem CsInv.wle {lo : Bool} {M : List UInt8} {k : Nat} {cn : Bool} (h : CsInv lo M k cn) (hk : k < M.length) : k + dcW (M.drop k) ≤ M.length := by
  have := dcW_le (M.drop k) (h.pos hk) (h.okc hk)
  rw [List.length_drop] at this
  omega
theorem CsInv.neatc {lo : Bool} {M : List UInt8} {k : Nat} {cn : Bool} (h : CsInv lo M k cn) (hk : k < M.length) (hl : lo = false) : neatC (M.drop k) = true := by
  have := h.neat hl
  rw [neatL_step _ (h.pos hk), Bool.and_eq_true] at this
  exact this.1
theorem CsInv.next {lo : Bool} {M : List UInt8} {k : Nat} {cn : Bool} (h : CsInv lo M k cn) (hk : k < M.length) (w : Nat) (hw : dcW (M.drop k) = w) (cn' : Bool) (hc : cn' = true → cn = true ∧ canC (M.drop k) = true) : CsInv lo M (k + w) cn' := by
  subst hw
  refine ⟨h.wle hk, ?_, fun hl => ?_, fun h1 h2 => ?_⟩
  · have := (okL_step h.ok (h.pos hk)).2
    rwa [List.drop_drop] at this
  · have := h.neat hl
    rw [neatL_step _ (h.pos hk), Bool.and_eq_true, List.drop_drop] at this
    exact this.2
  · obtain ⟨a, b⟩ := hc h1
    refine h.can a ?_
    rw [canL_step _ (h.pos hk), b, List.drop_drop, h2]; rfl
/-- The first of two halves alone: the second one is a piece of its own. -/
theorem CsInv.half {M : List UInt8} {k : Nat} {cn : Bool} (h : CsInv true M k cn) (hk : k < M.length) (h0 : natL (M.drop k) 0 = 92) (h1 : natL (M.drop k) 1 = 117) (hp : pairOk (uV (M.drop k)) (uV (M.drop (k + 6)))) : CsInv true M (k + 6) false := by
  have hd : (M.drop k).drop 6 = M.drop (k + 6) := by rw [List.drop_drop]
  have hu : 0 ≤ uV (M.drop (k + 6)) := by have := hp.2.2.1; omega
  obtain ⟨l6, a0, a1, _⟩ := uV_ok hu
  rw [List.length_drop] at l6
  have n0 : natL (M.drop (k + 6)) 0 = 92 := by rw [natL_at] at a0; omega
  have n1 : natL (M.drop (k + 6)) 1 = 117 := by rw [natL_at] at a1; omega
  have hw : dcW (M.drop k) = 12 := by unfold dcW escW uniW; rw [if_pos h0, if_pos h1, hd, if_pos hp]
  have hw2 : dcW (M.drop (k + 6)) = 6 := by
    unfold dcW escW uniW
    rw [if_pos n0, if_pos n1, if_neg (fun q => by have := q.2.1; have := hp.2.2.1; omega)]
  have hok := (okL_step h.ok (h.pos hk)).2
  rw [hw, List.drop_drop] at hok
  have hp2 : 0 < (M.drop (k + 6)).length := by rw [List.length_drop]; omega
  refine ⟨by omega, ?_, fun z => (by cases z), fun z => (by cases z)⟩
  have e : okL (M.drop (k + 6)) = (okPc (M.drop (k + 6)) && okL ((M.drop (k + 6)).drop (dcW (M.drop (k + 6))))) := allW_step _ _ _ hp2 (dcW_pos _ hp2)
  rw [e, hw2, List.drop_drop, show k + 6 + 6 = k + 12 by omega, hok, Bool.and_true]
  unfold okPc
  rw [if_pos n0, decide_eq_true_iff]
  refine ⟨by rw [List.length_drop]; omega, ?_⟩
  have := hu
  omega
theorem CsInv.start {lo : Bool} {T : List UInt8} {e : Nat} (he : e < T.length) (h34 : atL T e = 34) (h1 : 1 ≤ e) (hs : strN lo T 1 = e) : CsInv lo (T.take e) 1 true := by
  have := str_ok (lo := lo) he h34 e 1 (by omega) h1 hs
  exact ⟨by rw [List.length_take]; omega, this.1, this.2, fun _ h => h⟩
theorem CsInv.fin {lo : Bool} {M : List UInt8} {cn : Bool} (h : CsInv lo M M.length cn) : cn = true → canL (M.drop 1) = true := fun q => h.can q (by rw [List.drop_length]; rfl)
end Go.Proofs.YtldcoaigecnpfaaDoor
