/- The statement FnOldValid, walked: it returns true, and leaves all that lay below as it was. -/
import Derived.Test.YtklncgmfbflooaaOldValid
import Derived.Test.YtklncgmfbflooaaTaken
import Derived.Test.YtklncgmfbflooaaFits
namespace Go.Proofs.Ytklncgmfbflooaa
open Go.RowKit
set_option maxRecDepth 100000 in
set_option maxHeartbeats 1000000 in
theorem law_walk (s : ByteArray) (w : World) (hs : s.size ≤ 2147483647) :
    Calls Try.prog 3 #[.string s] w fun e w' => e = .returned (.bool true) ∧ Below w.heap.size w w' := by
  have HG : Hid (∀ W : World, Calls Try.prog 6 #[.slice (some ⟨W.heap.size, 0, none⟩) 1 1] (W.alloc (Obj.cells #[.string s] 9)) fun e w' => e = .returned (.bool (okFit s)) ∧ W.alloc (Obj.cells #[.string s] 9) = w') := Lib.hid fun W => fit1 s W hs
  have HO := Lib.hid (fun W : World => oldRules W)
  have HT : Hid (∀ W : World, Calls Try.prog 4 #[.string s, .agg #[.bool true, .bool true]] W fun e w' => e = .returned (.tuple #[.bool (takenB s.data.toList), .bool true]) ∧ Below W.heap.size W w') := Lib.hid fun W => takenS s W hs
  have HV : Hid (okFit s = true → ∀ W : World, Calls Try.prog 7 #[.string s] W (VdPost (takenB s.data.toList) W)) := Lib.hid fun h W => oldValid s W (by unfold okFit at h; simp at h; omega)
  generalize takenB s.data.toList = t at HT HV
  generalize okFit s = g at HG HV
  cases g
  · go_enter Try.func3, Try.ntmps3
    go_wp2_with fail
    refine (HO.out _).mono ?_
    rintro e w1 ⟨rfl, hb1⟩
    have HB1 := Lib.hid hb1
    clear hb1
    go_wp2_with fail
    refine (HT.out _).mono ?_
    rintro e w2 ⟨rfl, hb2⟩
    have HB2 := Lib.hid (HB1.out.trans (hb2.mono HB1.out.size))
    clear hb2
    go_wp2_with fail
    refine (HG.out _).mono ?_
    rintro e w3 ⟨rfl, rfl⟩
    go_wp2
    go_ret
    exact ⟨rfl, HB2.out.alloc HB2.out.size _⟩
  · have HV2 := Lib.hid (HV.out rfl)
    cases t
    all_goals (
      go_enter Try.func3, Try.ntmps3
      go_wp2_with fail
      refine (HO.out _).mono ?_
      rintro e w1 ⟨rfl, hb1⟩
      have HB1 := Lib.hid hb1
      clear hb1
      go_wp2_with fail
      refine (HT.out _).mono ?_
      rintro e w2 ⟨rfl, hb2⟩
      have HB2 := Lib.hid (HB1.out.trans (hb2.mono HB1.out.size))
      clear hb2
      go_wp2_with fail
      refine (HG.out _).mono ?_
      rintro e w3 ⟨rfl, rfl⟩
      have HB3 := Lib.hid (HB2.out.alloc HB2.out.size (Obj.cells #[.string s] 9))
      go_wp2_with fail
      refine (HV2.out _).mono ?_
      rintro e w4 ⟨rfl, hb4⟩
      have HB4 := Lib.hid (HB3.out.trans (hb4.mono HB3.out.size))
      clear hb4
      go_wp2
      go_ret
      exact ⟨rfl, HB4.out⟩)
theorem fnOldValid_any (s : ByteArray) (w : World) (_ : s.size ≤ maxLen) :
    Calls Try.prog 3 #[.string s] w fun e w' => e = .returned (.bool true) ∧ Below w.heap.size w w' := by
  by_cases h : s.size ≤ 2147483647
  · exact law_walk s w h
  · have h' : 2147483647 < s.size := by omega
    go_enter Try.func3, Try.ntmps3
    go_wp2
    go_ret
    exact ⟨rfl, Below.refl _ _⟩
end Go.Proofs.Ytklncgmfbflooaa
