/- Plain words: a text between quotation marks; how far it has been read, and how far written. Of no program. -/
import Derived.Test.YtldcoaigecnpfaaDoorDcdG
namespace Go.Proofs.YtldcoaigecnpfaaDoor
open Go.RowKit
/-- Between quotation marks. -/
def qT (m : List UInt8) : List UInt8 := 34 :: (m ++ [34])
theorem qT_length (m : List UInt8) : (qT m).length = m.length + 2 := by simp [qT]
theorem qT_drop (m : List UInt8) (k : Nat) (hk : k ≤ m.length) : (qT m).drop (k + 1) = m.drop k ++ [34] := by
  unfold qT; rw [List.drop_succ_cons, List.drop_append_of_le_length hk]
theorem qT_at (m : List UInt8) (k : Nat) (hk : k < m.length) : atL (qT m) (k + 1) = (natL (m.drop k) 0 : Int) := by
  rw [natL_drop, ← natL_at]
  show atL (m ++ [34]) k = _
  unfold atL
  rw [List.getD_eq_getElem?_getD, List.getD_eq_getElem?_getD, List.getElem?_append_left hk]; rfl
theorem qT_end (m : List UInt8) : atL (qT m) (m.length + 1) = 34 := by
  show atL (m ++ [34]) m.length = 34
  unfold atL
  rw [List.getD_eq_getElem?_getD, List.getElem?_append_right (Nat.le_refl _), Nat.sub_self]; rfl
theorem qT_part (m : List UInt8) (i k : Nat) (hik : i ≤ k) (hk : k ≤ m.length) : ((qT m).drop (i + 1)).take (k - i) = (m.drop i).take (k - i) := by
  rw [qT_drop m i (by omega), List.take_append_of_le_length (by rw [List.length_drop]; omega)]
theorem qT_rl (m : List UInt8) (k : Nat) (hk : k < m.length) : rlL ((qT m).drop (k + 1)) = rlL (m.drop k) ∧ decW ((qT m).drop (k + 1)) = decW (m.drop k) := by
  rw [qT_drop m k (by omega)]
  have hl : (m.drop k).length = m.length - k := List.length_drop
  have h34 : atL (m.drop k ++ [34]) (m.drop k).length = 34 := by
    unfold atL
    rw [List.getD_eq_getElem?_getD, List.getElem?_append_right (Nat.le_refl _), Nat.sub_self]; rfl
  have h1 := rl_cut (m.drop k ++ [34]) (m.drop k).length (by omega) (by simp) h34
  have h2 := decW_cut (m.drop k ++ [34]) (m.drop k).length (by omega) (by simp) h34
  rw [List.take_left] at h1 h2
  exact ⟨h1.symm, h2.symm⟩
theorem qT_nat (m : List UInt8) (k j : Nat) (hk : k + j < m.length) : natL ((qT m).drop (k + 1)) j = natL (m.drop k) j := by
  rw [qT_drop m k (by omega)]
  unfold natL
  rw [List.getD_eq_getElem?_getD, List.getD_eq_getElem?_getD, List.getElem?_append_left (by rw [List.length_drop]; omega)]
structure UInv (m : List UInt8) (k i : Nat) (out : List UInt8) (bad : Bool) : Prop where
  ik : i ≤ k
  km : k ≤ m.length
  eq : dcL m = out ++ (m.drop i).take (k - i) ++ dcL (m.drop k)
  ok : okL (m.drop k) = true
  nt : neatL m = true → bad = false ∧ neatL (m.drop k) = true
theorem UInv.start {m : List UInt8} (h : okL m = true) : UInv m 0 0 [] false := ⟨Nat.le_refl _, Nat.zero_le _, by simp, by simpa using h, fun q => ⟨rfl, by simpa using q⟩⟩
theorem UInv.pos {m : List UInt8} {k : Nat} (h : k < m.length) : 0 < (m.drop k).length := by rw [List.length_drop]; omega
theorem UInv.okc {m : List UInt8} {k i : Nat} {out : List UInt8} {bad : Bool} (h : UInv m k i out bad) (hk : k < m.length) : okPc (m.drop k) = true := (okL_step h.ok (UInv.pos hk)).1
theorem UInv.wle {m : List UInt8} {k i : Nat} {out : List UInt8} {bad : Bool} (h : UInv m k i out bad) (hk : k < m.length) : k + dcW (m.drop k) ≤ m.length := by
  have := dcW_le _ (UInv.pos hk) (h.okc hk)
  rw [List.length_drop] at this; omega
theorem take_moreD (m : List UInt8) (i n w : Nat) (h : i ≤ n) : (m.drop i).take (n + w - i) = (m.drop i).take (n - i) ++ (m.drop n).take w := by
  rw [show n + w - i = (n - i) + w by omega, List.take_add, List.drop_drop, show i + (n - i) = n by omega]
theorem UInv.raw {m : List UInt8} {k i : Nat} {out : List UInt8} {bad : Bool} (h : UInv m k i out bad) (hk : k < m.length) (w : Nat) (hw : dcW (m.drop k) = w) (hc : dcC (m.drop k) = (m.drop k).take w) : UInv m (k + w) i out bad := by
  have hwl := h.wle hk
  have hp := UInv.pos hk
  have hik := h.ik
  have ho := (okL_step h.ok hp).2
  have hn := neatL_step (m.drop k) hp
  rw [hw] at hwl ho hn
  rw [List.drop_drop] at ho hn
  refine ⟨by omega, hwl, ?_, ho, fun q => ?_⟩
  · rw [h.eq, dcL_step _ hp, hw, hc, List.drop_drop, take_moreD m i k w hik]
    simp only [List.append_assoc]
  · obtain ⟨a, b⟩ := h.nt q
    rw [hn, Bool.and_eq_true] at b
    exact ⟨a, b.2⟩
theorem UInv.esc {m : List UInt8} {k i : Nat} {out : List UInt8} {bad : Bool} (h : UInv m k i out bad) (hk : k < m.length) (w : Nat) (E : List UInt8) (bad' : Bool) (hw : dcW (m.drop k) = w) (hc : dcC (m.drop k) = E) (hb : neatC (m.drop k) = true → bad' = bad) : UInv m (k + w) (k + w) (out ++ (m.drop i).take (k - i) ++ E) bad' := by
  have hwl := h.wle hk
  have hp := UInv.pos hk
  have ho := (okL_step h.ok hp).2
  have hn := neatL_step (m.drop k) hp
  rw [hw] at hwl ho hn
  rw [List.drop_drop] at ho hn
  refine ⟨Nat.le_refl _, hwl, ?_, ho, fun q => ?_⟩
  · rw [h.eq, dcL_step _ hp, hw, hc, List.drop_drop, Nat.sub_self, List.take_zero]
    simp only [List.append_assoc, List.append_nil]
  · obtain ⟨a, b⟩ := h.nt q
    rw [hn, Bool.and_eq_true] at b
    exact ⟨by rw [hb b.1, a], b.2⟩
theorem UInv.fin {m : List UInt8} {i : Nat} {out : List UInt8} {bad : Bool} (h : UInv m m.length i out bad) : dcL m = out ++ (m.drop i).take (m.length - i) ∧ (neatL m = true → bad = false) := by
  refine ⟨?_, fun q => (h.nt q).1⟩
  have := h.eq
  rw [List.drop_of_length_le (Nat.le_refl m.length)] at this
  have e : dcL ([] : List UInt8) = [] := rfl
  rw [e, List.append_nil] at this
  exact this
theorem UInv.bound {m : List UInt8} {k i : Nat} {out : List UInt8} {bad : Bool} (h : UInv m k i out bad) : out.length + (k - i) ≤ 4 * m.length := by
  have h1 := congrArg List.length h.eq
  have hk := h.km
  have hi := h.ik
  simp only [List.length_append, List.length_take, List.length_drop] at h1
  have := dcL_length m
  omega
/-- A byte of ASCII that stands for itself. -/
theorem plain_piece (l : List UInt8) (_h : 0 < l.length) (h1 : natL l 0 < 128) (h2 : ¬ natL l 0 = 92) : dcW l = 1 ∧ dcC l = l.take 1 := by
  have hd := decW_ascii l h1
  unfold dcW dcC
  rw [if_neg h2, if_neg h2]
  refine ⟨hd.2, ?_⟩
  unfold mendC
  rw [if_neg (by rw [hd.1]; omega), hd.2]
end Go.Proofs.YtldcoaigecnpfaaDoor
