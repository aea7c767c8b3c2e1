/- unicode/utf16.IsSurrogate and DecodeRune, walked. -/
import Derived.Test.YtldcoaigecnpfaaDoorEncoded
namespace Go.Proofs.YtldcoaigecnpfaaDoor
open Go.RowKit
theorem isSurr (r : Int) (b : Bool) (hb : b = decide (halfU r)) (w : World) : Calls Tryd.prog 73 #[.int .i32 r] w fun e w' => e = .returned (.bool b) ∧ w' = w := by
  have hB : Hid (b = decide (55296 ≤ r ∧ r ≤ 57343)) := Lib.hid hb
  clear hb
  by_cases h1 : 55296 ≤ r
  · by_cases h2 : r ≤ 57343
    · have h2' : r < 57344 := by omega
      have e : b = true := by rw [hB.out]; simp; omega
      subst e
      go_enter Tryd.func73, Tryd.ntmps73
      go_wp2
      go_ret
      exact ⟨rfl, rfl⟩
    · have h2' : 57344 ≤ r := by omega
      have e : b = false := by rw [hB.out]; simp; omega
      subst e
      go_enter Tryd.func73, Tryd.ntmps73
      go_wp2
      go_ret
      exact ⟨ret_bool (by simp; omega), rfl⟩
  · have e : b = false := by rw [hB.out]; simp; omega
    subst e
    go_enter Tryd.func73, Tryd.ntmps73
    go_wp2
    go_ret
    exact ⟨rfl, rfl⟩
theorem i32_join (x y : Int) (h0 : 0 ≤ x) (h1 : x < 1048576) (hm : x % 1024 = 0) (h2 : 0 ≤ y) (h3 : y < 1024) : bits BinOp.or IntKind.i32 x y = x + y :=
  bits_join .i32 20 (by decide) (by intro n h0 h1; rw [IntKind.wrap_i32]; omega) 10 x y h0 hm h1 h2 h3 (by omega)
set_option maxHeartbeats 1000000 in
/-- What two halves give; no pair of them gives U+FFFD. -/
theorem decRune16 (c d : Int) (hc : 0 ≤ c ∧ c ≤ 65535) (hd : -1 ≤ d ∧ d ≤ 65535) (w : World) : Calls Tryd.prog 75 #[.int .i32 c, .int .i32 d] w fun e w' => e = .returned (.int .i32 (if pairOk c d then pairV c d else 65533)) ∧ w' = w := by
  by_cases hp : pairOk c d
  · rw [if_pos hp]
    obtain ⟨p1, p2, p3, p4⟩ := hp
    have hj := i32_join ((c - 55296) * 1024) (d - 56320) (by omega) (by omega) (by omega) (by omega) (by omega)
    have hv : Hid ((c - 55296) * 1024 + (d - 56320) + 65536 = pairV c d) := Lib.hid (by unfold pairV; omega)
    generalize pairV c d = z at hv ⊢
    have p4' : d < 57344 := by omega
    go_enter Tryd.func75, Tryd.ntmps75
    go_wp2
    go_ret
    exact ⟨congrArg (fun x => Ending.returned (.int .i32 x)) hv.out, rfl⟩
  · rw [if_neg hp]
    have hn : c < 55296 ∨ 56320 ≤ c ∨ d < 56320 ∨ 57344 ≤ d := by unfold pairOk at hp; omega
    clear hp
    rcases hn with q | q | q | q
    all_goals (
      go_enter Tryd.func75, Tryd.ntmps75
      go_wp2
      all_goals (
        go_ret
        exact ⟨rfl, rfl⟩))
end Go.Proofs.YtldcoaigecnpfaaDoor
