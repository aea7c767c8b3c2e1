/- The statement FnOldNumber, walked: it returns true, and leaves all that lay below as it was. -/
import Derived.Test.YtegfdgmbhnfeeaaIsNumber
import Derived.Test.YtegfdgmbhnfeeaaFits
namespace Go.Proofs.Ytegfdgmbhnfeeaa
open Go.RowKit
theorem zzValidNumber (s : ByteArray) (w : World) (hs : s.size ≤ 2147483647) : Calls Try.prog 33 #[.string s] w fun e w' => e = .returned (.bool (drun 0 s.data.toList)) ∧ w = w' := by
  have hc := isValidNumber s w hs
  generalize drun 0 s.data.toList = r at hc ⊢
  go_enter Try.func33, Try.ntmps33
  go_wp2_with fail
  refine hc.mono ?_
  rintro e w' ⟨rfl, rfl⟩
  go_wp2
  go_ret
  exact ⟨rfl, rfl⟩
theorem oldNumber (s : ByteArray) (w : World) (hs : s.size ≤ 2147483647) : Calls Try.prog 18 #[.string s] w fun e w' => e = .returned (.bool (drun 0 s.data.toList)) ∧ w = w' := by
  have hc := zzValidNumber s w hs
  generalize drun 0 s.data.toList = r at hc ⊢
  go_enter Try.func18, Try.ntmps18
  go_wp2_with fail
  refine hc.mono ?_
  rintro e w' ⟨rfl, rfl⟩
  go_wp2
  go_ret
  exact ⟨rfl, rfl⟩
set_option maxHeartbeats 1000000 in
theorem law_walk (s : ByteArray) (w : World) (hs : s.size ≤ 2147483647) :
    Calls Try.prog 6 #[.string s] w fun e w' => e = .returned (.bool true) ∧ Below w.heap.size w w' := by
  have hg := fit1 s w hs
  generalize okFit s = g at hg
  have h1 := fun W => oldNumber s W hs
  have h2 := fun W => number8 s W hs
  generalize drun 0 s.data.toList = r at h1 h2
  have H1 := Lib.hid h1
  have H2 := Lib.hid h2
  clear h1 h2
  cases g
  · go_enter Try.func6, Try.ntmps6
    go_wp2_with fail
    refine hg.mono ?_
    rintro e w' ⟨rfl, rfl⟩
    clear hg
    go_wp2
    go_ret
    exact ⟨rfl, (Below.refl _ _).alloc (Nat.le_refl _) _⟩
  · cases r
    all_goals
      go_enter Try.func6, Try.ntmps6
      go_wp2_with fail
      refine hg.mono ?_
      rintro e w' ⟨rfl, rfl⟩
      clear hg
      go_wp2_with fail
      refine (H1.out _).mono ?_
      rintro e w' ⟨rfl, rfl⟩
      go_wp2_with fail
      refine (H2.out _).mono ?_
      rintro e w' ⟨rfl, rfl⟩
      go_wp2
      go_ret
      exact ⟨rfl, (Below.refl _ _).alloc (Nat.le_refl _) _⟩
theorem fnOldNumber_any (s : ByteArray) (w : World) (_ : s.size ≤ maxLen) :
    Calls Try.prog 6 #[.string s] w fun e w' => e = .returned (.bool true) ∧ Below w.heap.size w w' := by
  by_cases h : s.size ≤ 2147483647
  · exact law_walk s w h
  · have h' : 2147483647 < s.size := by omega
    go_enter Try.func6, Try.ntmps6
    go_wp2
    go_ret
    exact ⟨rfl, Below.refl _ _⟩
end Go.Proofs.Ytegfdgmbhnfeeaa
