/- The statement FnOldPlaces, walked: it returns true, and leaves all that lay below as it was. -/
import Derived.Test.YtklncgmfbflooaaDoorCmpBuf
import Derived.Test.YtklncgmfbflooaaDoorTaken
import Derived.Test.YtklncgmfbflooaaDoorFits
import Derived.Test.YtklncgmfbflooaaDoorClose
namespace Go.Proofs.YtklncgmfbflooaaDoor
open Go.RowKit
set_option maxRecDepth 100000 in
set_option maxHeartbeats 4000000 in
theorem law_walk (text pre ind : ByteArray) (esc : Bool) (w : World) (h1 : text.size ≤ 2147483647) (h2 : pre.size ≤ 2147483647) (h3 : ind.size ≤ 2147483647) :
    Calls Tryd.prog 6 #[.string text, .bool esc, .string pre, .string ind] w fun e w' => e = .returned (.bool true) ∧ Below w.heap.size w w' := by
  have HG : Hid (∀ W : World, Calls Tryd.prog 10 #[.slice (some ⟨W.heap.size, 0, none⟩) 1 1] (W.alloc (Obj.cells #[.string text] 9)) fun e w' => e = .returned (.bool (okFit text)) ∧ W.alloc (Obj.cells #[.string text] 9) = w') := Lib.hid fun W => fit1 text W h1
  have HO := Lib.hid (fun W : World => oldRules W)
  have HT : Hid (∀ W : World, Calls Tryd.prog 8 #[.string text, .agg #[.bool true, .bool true]] W fun e w' => e = .returned (.tuple #[.bool (takenB text.data.toList), .bool true]) ∧ Below W.heap.size W w') := Lib.hid fun W => takenS text W h1
  have HC : Hid (okFit text = true → ∀ W : World, Calls Tryd.prog 18 #[.string text] W (CheckPost (takenB text.data.toList) W)) := Lib.hid fun h W => oldCheck text W (by unfold okFit at h; simpa using h)
  have HK : Hid (okFit text = true → ∃ T : ByteArray, ∀ W : World, Calls Tryd.prog 19 #[.string ⟨#[]⟩, .string text] W (TightPost (takenB text.data.toList) T W)) := Lib.hid fun h => ⟨_, fun W => oldCompact ⟨#[]⟩ text W (by simp [ByteArray.size]) (by unfold okFit at h; simpa using h)⟩
  have HI : Hid (okFit text = true → pre.size ≤ 16 → ind.size ≤ 16 → ∃ T : ByteArray, ∀ W : World, Calls Tryd.prog 20 #[.string ⟨#[]⟩, .string text, .string pre, .string ind] W (TightPost (takenB text.data.toList) T W)) := Lib.hid fun h hp hi => ⟨_, fun W => oldIndent ⟨#[]⟩ text pre ind W (by simp [ByteArray.size]) (by unfold okFit at h; simpa using h) hp hi⟩
  have HS : Hid (okFit text = true → ∃ T : ByteArray, ∀ W : World, Calls Tryd.prog 21 #[.string ⟨#[]⟩, .string text, .bool esc] W (TightPost (takenB text.data.toList) T W)) := Lib.hid fun h => ⟨_, fun W => oldTight ⟨#[]⟩ text esc W (by simp [ByteArray.size]) (by unfold okFit at h; simpa using h)⟩
  have HW : Hid (okFit text = true → pre.size ≤ 16 → ind.size ≤ 16 → ∃ T : ByteArray, ∀ W : World, Calls Tryd.prog 22 #[.string ⟨#[]⟩, .string text, .string pre, .string ind] W (TightPost (takenB text.data.toList) T W)) := Lib.hid fun h hp hi => ⟨_, fun W => oldWide ⟨#[]⟩ text pre ind W (by simp [ByteArray.size]) (by unfold okFit at h; simpa using h) hp hi⟩
  have hd1 : ¬ ((2147483647 : Int) < (text.size : Int)) := by omega
  have hd2 : ¬ ((2147483647 : Int) < (pre.size : Int)) := by omega
  have hd3 : ¬ ((2147483647 : Int) < (ind.size : Int)) := by omega
  generalize takenB text.data.toList = t at HT HC HK HI HS HW
  generalize okFit text = g at HG HC HK HI HS HW
  cases g
  · clear HC HK HI HS HW HT HO
    go_enter Tryd.func6, Tryd.ntmps6
    go_wp2_with fail
    refine (HG.out _).mono ?_
    rintro e w1 ⟨rfl, rfl⟩
    go_wp2
    go_ret
    exact ⟨rfl, (Below.refl _ _).alloc (Nat.le_refl _) _⟩
  · by_cases hp : pre.size ≤ 16
    · have hp1 : ¬ ((16 : Int) < (pre.size : Int)) := by omega
      by_cases hi : ind.size ≤ 16
      · have hi1 : ¬ ((16 : Int) < (ind.size : Int)) := by omega
        have HC2 := Lib.hid (HC.out rfl)
        obtain ⟨T1, hk⟩ := HK.out rfl
        obtain ⟨T2, hi2⟩ := HI.out rfl hp hi
        obtain ⟨T3, hs⟩ := HS.out rfl
        obtain ⟨T4, hw⟩ := HW.out rfl hp hi
        have HK2 := Lib.hid hk
        have HI2 := Lib.hid hi2
        have HS2 := Lib.hid hs
        have HW2 := Lib.hid hw
        clear hk hi2 hs hw h1 h2 h3 hp hi HC HK HI HS HW
        cases t
        all_goals (
          go_enter Tryd.func6, Tryd.ntmps6
          go_wp2_with fail
          refine (HG.out _).mono ?_
          rintro e w1 ⟨rfl, rfl⟩
          have B1 : Hid (Below w.heap.size w (w.alloc (Obj.cells #[.string text] 9))) := Lib.hid ((Below.refl _ _).alloc (Nat.le_refl _) _)
          go_wp2_with fail
          refine (HC2.out _).mono ?_
          rintro e w2 ⟨k2, rfl, hb2⟩
          have B2 := Lib.hid (B1.out.trans (hb2.mono B1.out.size))
          clear hb2 B1
          go_wp2_with fail
          refine (HK2.out _).mono ?_
          rintro e w3 ⟨s3, k3, rfl, _, hb3⟩
          have B3 := Lib.hid (B2.out.trans (hb3.mono B2.out.size))
          clear hb3 B2
          go_wp2_with fail
          refine (HI2.out _).mono ?_
          rintro e w4 ⟨s4, k4, rfl, _, hb4⟩
          have B4 := Lib.hid (B3.out.trans (hb4.mono B3.out.size))
          clear hb4 B3
          go_wp2_with fail
          refine (HS2.out _).mono ?_
          rintro e w5 ⟨s5, k5, rfl, _, hb5⟩
          have B5 := Lib.hid (B4.out.trans (hb5.mono B4.out.size))
          clear hb5 B4
          go_wp2_with fail
          refine (HW2.out _).mono ?_
          rintro e w6 ⟨s6, k6, rfl, _, hb6⟩
          have B6 := Lib.hid (B5.out.trans (hb6.mono B5.out.size))
          clear hb6 B5
          go_wp2_with fail
          refine (HO.out _).mono ?_
          rintro e w7 ⟨rfl, hb7⟩
          have B7 := Lib.hid (B6.out.trans (hb7.mono B6.out.size))
          clear hb7 B6
          go_wp2_with fail
          refine (HT.out _).mono ?_
          rintro e w8 ⟨rfl, hb8⟩
          have B8 := Lib.hid (B7.out.trans (hb8.mono B7.out.size))
          clear hb8 B7
          go_wp2
          go_ret
          exact ⟨rfl, B8.out⟩)
      · have hi1 : ((16 : Int) < (ind.size : Int)) := by omega
        clear HC HK HI HS HW HT HO
        go_enter Tryd.func6, Tryd.ntmps6
        go_wp2_with fail
        refine (HG.out _).mono ?_
        rintro e w1 ⟨rfl, rfl⟩
        go_wp2
        go_ret
        exact ⟨rfl, (Below.refl _ _).alloc (Nat.le_refl _) _⟩
    · have hp1 : ((16 : Int) < (pre.size : Int)) := by omega
      clear HC HK HI HS HW HT HO
      go_enter Tryd.func6, Tryd.ntmps6
      go_wp2_with fail
      refine (HG.out _).mono ?_
      rintro e w1 ⟨rfl, rfl⟩
      go_wp2
      go_ret
      exact ⟨rfl, (Below.refl _ _).alloc (Nat.le_refl _) _⟩
theorem fnOldPlaces_any (text : ByteArray) (esc : Bool) (pre ind : ByteArray) (w : World) (_ : text.size ≤ maxLen) (_ : pre.size ≤ maxLen) (_ : ind.size ≤ maxLen) :
    Calls Tryd.prog 6 #[.string text, .bool esc, .string pre, .string ind] w fun e w' => e = .returned (.bool true) ∧ Below w.heap.size w w' := by
  by_cases h1 : text.size ≤ 2147483647
  · by_cases h2 : pre.size ≤ 2147483647
    · by_cases h3 : ind.size ≤ 2147483647
      · exact law_walk text pre ind esc w h1 h2 h3
      · have h' : 2147483647 < ind.size := by omega
        go_enter Tryd.func6, Tryd.ntmps6
        go_wp2
        go_ret
        exact ⟨rfl, Below.refl _ _⟩
    · have h' : 2147483647 < pre.size := by omega
      go_enter Tryd.func6, Tryd.ntmps6
      go_wp2
      go_ret
      exact ⟨rfl, Below.refl _ _⟩
  · have h' : 2147483647 < text.size := by omega
    go_enter Tryd.func6, Tryd.ntmps6
    go_wp2
    go_ret
    exact ⟨rfl, Below.refl _ _⟩
end Go.Proofs.YtklncgmfbflooaaDoor
