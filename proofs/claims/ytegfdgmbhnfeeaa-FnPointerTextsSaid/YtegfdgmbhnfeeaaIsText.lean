/- The reference's IsText, walked: it tells whether a text is Unicode text; nothing is written. -/
import Derived.Test.YtegfdgmbhnfeeaaRune
import Derived.Lib.IndexBytes
namespace Go.Proofs.Ytegfdgmbhnfeeaa
open Go.RowKit
/-- The length of the string in a slot. -/
def strLen : Value → Nat | .string s => s.size | _ => 0
theorem nonempty_of (b : ByteArray) (h : b.toList.isEmpty = false) : 0 < b.size := by
  rw [ByteArray.toList_eq] at h
  rw [← size_list]
  cases hb : b.data.toList with
  | nil => rw [hb] at h; cases h
  | cons c r => simp
set_option maxHeartbeats 400000 in
theorem isText (s : ByteArray) (w : World) (hs : s.size ≤ 2147483647) : Calls Try.prog 21 #[.string s] w fun e w' => e = .returned (.bool (isTxt s.data.toList)) ∧ w = w' := by
  go_enter Try.func21, Try.ntmps21
  go_wp2
  go_loop [0] (fun t => ∃ b : ByteArray, b.size ≤ s.size ∧ t = .string b ∧ isTxt b.data.toList = isTxt s.data.toList) (fun t => strLen t)
  case atStart => exact ⟨s, Nat.le_refl _, rfl, rfl⟩
  case round =>
    obtain ⟨b, hb, rfl, hT⟩ := hrel
    have HT := Lib.hid hT
    clear hT
    cases hz : b.toList.isEmpty
    · have hz2 : (!b.toList.isEmpty) = true := by rw [hz]; rfl
      have hz3 : 0 < b.size := nonempty_of b hz
      have hr := rlL_range b.data.toList (by simpa using hz3)
      have hc := runeLength b w (by omega) hz3
      unfold RlPost at hc
      rw [size_list] at hr
      have hno := isTxt_no b.data.toList (by simpa using hz3)
      have hst := isTxt_step b.data.toList (by simpa using hz3)
      generalize rlL b.data.toList = n at hr hc hno hst
      obtain ⟨hr1, hr2, hr3⟩ := hr
      have HNO := Lib.hid hno
      have HST := Lib.hid hst
      clear hno hst
      go_wp2_with fail
      refine hc.mono ?_
      rintro e w' ⟨rfl, rfl⟩
      clear hc
      by_cases h0 : n = 0
      · subst h0
        go_wp2
        go_ret
        exact ⟨ret_bool ((HNO.out (by trivial)).symm.trans HT.out), rfl⟩
      · have hx : (n == 0) = false := by simpa using h0
        have hn1 : 1 ≤ n := by omega
        have HX := Lib.hid h0
        clear h0
        go_wp2
        go_round
        case rel => exact ⟨_, by rw [ByteArray.size_extract]; omega, rfl, by rw [Lib.extract_to_end, ← HST.out HX.out]; exact HT.out⟩
        case measure => simp only [strLen, ByteArray.size_extract]; omega
    · have hz2 : (!b.toList.isEmpty) = false := by rw [hz]; rfl
      have hz4 : b.data.toList = [] := by rw [ByteArray.toList_eq] at hz; simpa using hz
      have HZ := Lib.hid hz4
      clear hz4
      go_wp2
      go_ret
      exact ⟨ret_bool (by rw [← HT.out, HZ.out]; rfl), rfl⟩
end Go.Proofs.Ytegfdgmbhnfeeaa
