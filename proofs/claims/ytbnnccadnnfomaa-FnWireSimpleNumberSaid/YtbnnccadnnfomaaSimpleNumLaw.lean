/- The statement FnWireSimpleNumber, walked: it returns true, and leaves all that lay below as it was. -/
import Derived.Test.YtbnnccadnnfomaaSimpleNum
import Derived.Test.YtbnnccadnnfomaaShort
namespace Go.Proofs.Ytbnnccadnnfomaa
open Go.RowKit
theorem wireSimple (s : ByteArray) (w : World) (hs : s.size ≤ 2147483647) : Calls Try.prog 17 #[.string s] w fun e w' => e = .returned (.int .i64 (csn s.data.toList)) ∧ Below w.heap.size w w' := by
  have hcv := run_conv s
  have hc := fun W => simple_any W.heap.size (convCap W s) s.data.toList (convWorld W s) (by rw [size_list]; exact hs) (conv_bytes s W)
  rw [size_list] at hc
  generalize csn s.data.toList = r at hc ⊢
  have HC := Lib.hid hc
  clear hc
  go_enter Try.func17, Try.ntmps17
  go_wp2_with fail
  refine (HC.out _).mono ?_
  rintro e w' ⟨rfl, rfl⟩
  clear hcv
  go_wp2
  go_ret
  exact ⟨rfl, conv_below s w⟩
theorem guard1 (p : ByteArray) (w : World) (hp : p.size ≤ 2147483647) :
    Calls Try.prog 15 #[.slice (some ⟨w.heap.size, 0, none⟩) 1 1] (w.alloc (Obj.cells #[.string p] 9)) fun e w' => e = .returned (.bool ([p].all okShort)) ∧ w.alloc (Obj.cells #[.string p] 9) = w' :=
  short10 w.heap.size [p] 1 _ (by simp) (fun s hs => by simp at hs; subst hs; assumption) (fun j h => by
    match j, h with
    | 0, _ => simp)
set_option maxHeartbeats 1000000 in
theorem law_walk (s : ByteArray) (w : World) (hs : s.size ≤ 2147483647) :
    Calls Try.prog 6 #[.string s] w fun e w' => e = .returned (.bool true) ∧ Below w.heap.size w w' := by
  have hg := guard1 s w hs
  generalize [s].all okShort = g at hg
  cases g
  · go_enter Try.func6, Try.ntmps6
    go_wp2_with fail
    refine hg.mono ?_
    rintro e w' ⟨rfl, rfl⟩
    clear hg
    go_wp2
    go_ret
    exact ⟨rfl, (Below.refl _ _).alloc (Nat.le_refl _) _⟩
  · have hsn := fun W => simpleNumber s W hs
    have hws := fun W => wireSimple s W hs
    have hlaw := csn_sn s.data.toList
    generalize sn s.data.toList = r at hsn hlaw
    obtain ⟨n, b⟩ := r
    simp only at hsn hlaw
    generalize csn s.data.toList = m at hws hlaw
    have HSN := Lib.hid hsn
    have HWS := Lib.hid hws
    have HLAW := Lib.hid hlaw
    clear hsn hws hlaw
    cases b
    · go_enter Try.func6, Try.ntmps6
      go_wp2_with fail
      refine hg.mono ?_
      rintro e w' ⟨rfl, rfl⟩
      clear hg
      go_wp2_with fail
      refine (HSN.out _).mono ?_
      rintro e w' ⟨rfl, rfl⟩
      go_wp2
      go_ret
      exact ⟨rfl, (Below.refl _ _).alloc (Nat.le_refl _) _⟩
    · have hmn : m = n := HLAW.out rfl
      clear HLAW
      subst hmn
      go_enter Try.func6, Try.ntmps6
      go_wp2_with fail
      refine hg.mono ?_
      rintro e w' ⟨rfl, rfl⟩
      clear hg
      go_wp2_with fail
      refine (HSN.out _).mono ?_
      rintro e w' ⟨rfl, rfl⟩
      go_wp2_with fail
      refine (HWS.out _).mono ?_
      rintro e w1 ⟨rfl, hb⟩
      go_wp2
      go_ret
      exact ⟨rfl, ((Below.refl _ _).alloc (Nat.le_refl _) _).trans (hb.mono (by simp))⟩
theorem fnWireSimpleNumber_any (s : ByteArray) (w : World) (_ : s.size ≤ maxLen) :
    Calls Try.prog 6 #[.string s] w fun e w' => e = .returned (.bool true) ∧ Below w.heap.size w w' := by
  by_cases h : s.size ≤ 2147483647
  · exact law_walk s w h
  · have h' : 2147483647 < s.size := by omega
    go_enter Try.func6, Try.ntmps6
    go_wp2
    go_ret
    exact ⟨rfl, Below.refl _ _⟩
end Go.Proofs.Ytbnnccadnnfomaa
