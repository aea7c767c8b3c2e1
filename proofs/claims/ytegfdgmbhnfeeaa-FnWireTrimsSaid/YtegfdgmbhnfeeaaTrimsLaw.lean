/- The statement FnWireTrims, walked: it returns true, and leaves all that lay below as it was. -/
import Derived.Test.YtegfdgmbhnfeeaaTrims
import Derived.Test.YtegfdgmbhnfeeaaShort
namespace Go.Proofs.Ytegfdgmbhnfeeaa
open Go.RowKit
theorem wireEnds (s : ByteArray) (c : Int) (w : World) (hs : s.size ≤ 2147483647) : Calls Try.prog 10 #[.string s, .int .u8 c] w fun e w' => e = .returned (.bool (endsB s.data.toList c)) ∧ Below w.heap.size w w' := by
  have hcv := run_conv s
  have hc := fun W => hasSuffix W.heap.size (convCap W s) s.data.toList c (convWorld W s) (by rw [size_list]; exact hs) (conv_bytes s W)
  rw [size_list] at hc
  generalize endsB s.data.toList c = r at hc ⊢
  have HC := Lib.hid hc
  clear hc
  go_enter Try.func10, Try.ntmps10
  go_wp2_with fail
  refine (HC.out _).mono ?_
  rintro e w' ⟨rfl, rfl⟩
  clear hcv
  go_wp2
  go_ret
  exact ⟨rfl, conv_below s w⟩
theorem wireTrimByte (s : ByteArray) (c : Int) (w : World) (hs : s.size ≤ 2147483647) : Calls Try.prog 11 #[.string s, .int .u8 c] w fun e w' => e = .returned (.string (s.extract 0 (if endsB s.data.toList c then s.size - 1 else s.size))) ∧ Below w.heap.size w w' := by
  have hcv := run_conv s
  have hc := fun W => trimByte W.heap.size (convCap W s) s.data.toList c (convWorld W s) (by rw [size_list]; exact hs) (by rw [size_list]; exact conv_cap s W) (conv_bytes s W)
  rw [size_list] at hc
  have hle : (if endsB s.data.toList c then s.size - 1 else s.size) ≤ s.size := by split <;> omega
  generalize (if endsB s.data.toList c then s.size - 1 else s.size) = r at hc hle ⊢
  have hbk : ∀ W : World, (convert 22 9 (.slice (some ⟨W.heap.size, 0, none⟩) r (convCap W s))).run Try.prog (convWorld W s) = .ok (.string (s.extract 0 r)) (convWorld W s) := fun W => by
    rw [← take_str]; exact run_back _ _ _ _ _ _ (by rw [size_list]; exact hle) (conv_bytes s W)
  have HC := Lib.hid hc
  clear hc
  go_enter Try.func11, Try.ntmps11
  go_wp2_with fail
  refine (HC.out _).mono ?_
  rintro e w' ⟨rfl, rfl⟩
  clear hcv
  go_wp2
  go_ret
  exact ⟨rfl, conv_below s w⟩
theorem wireTrimSpace (s : ByteArray) (w : World) (hs : s.size ≤ 2147483647) : Calls Try.prog 12 #[.string s] w fun e w' => e = .returned (.string (s.extract 0 (beh s.data.toList s.size))) ∧ Below w.heap.size w w' := by
  have hcv := run_conv s
  have hc := fun W => trimSpace W.heap.size (convCap W s) s.data.toList (convWorld W s) (by rw [size_list]; exact hs) (by rw [size_list]; exact conv_cap s W) (conv_bytes s W)
  rw [size_list] at hc
  have hle := beh_le s.data.toList s.size
  generalize beh s.data.toList s.size = r at hc hle ⊢
  have hbk : ∀ W : World, (convert 22 9 (.slice (some ⟨W.heap.size, 0, none⟩) r (convCap W s))).run Try.prog (convWorld W s) = .ok (.string (s.extract 0 r)) (convWorld W s) := fun W => by
    rw [← take_str]; exact run_back _ _ _ _ _ _ (by rw [size_list]; exact hle) (conv_bytes s W)
  have HC := Lib.hid hc
  clear hc
  go_enter Try.func12, Try.ntmps12
  go_wp2_with fail
  refine (HC.out _).mono ?_
  rintro e w' ⟨rfl, rfl⟩
  clear hcv
  go_wp2
  go_ret
  exact ⟨rfl, conv_below s w⟩
theorem guard1 (p : ByteArray) (w : World) (hp : p.size ≤ 2147483647) :
    Calls Try.prog 9 #[.slice (some ⟨w.heap.size, 0, none⟩) 1 1] (w.alloc (Obj.cells #[.string p] 9)) fun e w' => e = .returned (.bool ([p].all okShort)) ∧ w.alloc (Obj.cells #[.string p] 9) = w' :=
  short10 w.heap.size [p] 1 _ (by simp) (fun s hs => by simp at hs; subst hs; assumption) (fun j h => by
    match j, h with
    | 0, _ => simp)
set_option maxRecDepth 100000 in
set_option maxHeartbeats 2000000 in
theorem law_walk (s : ByteArray) (c : Int) (w : World) (hs : s.size ≤ 2147483647) :
    Calls Try.prog 4 #[.string s, .int .u8 c] w fun e w' => e = .returned (.bool true) ∧ Below w.heap.size w w' := by
  have hg := guard1 s w hs
  generalize [s].all okShort = g at hg
  cases g
  · go_enter Try.func4, Try.ntmps4
    go_wp2_with fail
    refine hg.mono ?_
    rintro e w' ⟨rfl, rfl⟩
    clear hg
    go_wp2
    go_ret
    exact ⟨rfl, (Below.refl _ _).alloc (Nat.le_refl _) _⟩
  · have h1 := fun W => wireEnds s c W hs
    have h2 := fun W => wireTrimByte s c W hs
    have h3 := fun W => wireTrimSpace s W hs
    have h4 := fun W => behind s W hs
    have hle := beh_le s.data.toList s.size
    generalize beh s.data.toList s.size = r at h3 h4 hle
    have H1 := Lib.hid h1
    have H2 := Lib.hid h2
    have H3 := Lib.hid h3
    have H4 := Lib.hid h4
    clear h1 h2 h3 h4
    by_cases hp : 0 < s.size
    · obtain ⟨m, hm⟩ : ∃ m, s.size = m + 1 := ⟨s.size - 1, by omega⟩
      have hml : m < s.size := by omega
      have ec : ((s.size : Int) - 1) = ((m : Nat) : Int) := by omega
      have he : endsB s.data.toList c = (((s[m]'hml).toNat : Int) == c) := by
        unfold endsB
        rw [size_list, hm, at_eq s m hml]; simp
      rw [he] at H1 H2
      by_cases hcc : ((s[m]'hml).toNat : Int) = c
      · have e1 : (((s[m]'hml).toNat : Int) == c) = true := by simpa using hcc
        rw [e1, if_pos rfl] at H2
        rw [e1] at H1
        have hmm : s.size - 1 = m := by omega
        rw [hmm] at H2
        clear hmm hm hcc he hp
        go_enter Try.func4, Try.ntmps4
        go_wp2_with fail
        refine hg.mono ?_
        rintro e w' ⟨rfl, rfl⟩
        clear hg
        go_wp2_with fail
        refine (H1.out _).mono ?_
        rintro e w1 ⟨rfl, hb1⟩
        go_wp2_with fail
        refine (H2.out _).mono ?_
        rintro e w2 ⟨rfl, hb2⟩
        go_wp2_with fail
        refine (H3.out _).mono ?_
        rintro e w3 ⟨rfl, hb3⟩
        go_wp2_with fail
        refine (H4.out _).mono ?_
        rintro e w4 ⟨rfl, rfl⟩
        go_wp2
        go_ret
        exact ⟨rfl, (((Below.refl _ _).alloc (Nat.le_refl _) _).trans (hb1.mono (by simp))).trans ((hb2.mono (by have := hb1.size; simp at this; omega)).trans (hb3.mono (by have := hb1.size; have := hb2.size; simp at *; omega)))⟩
      · have e1 : (((s[m]'hml).toNat : Int) == c) = false := by simpa using hcc
        rw [e1, if_neg (by simp), ByteArray.extract_zero_size] at H2
        rw [e1] at H1
        clear hm hcc he hp
        go_enter Try.func4, Try.ntmps4
        go_wp2_with fail
        refine hg.mono ?_
        rintro e w' ⟨rfl, rfl⟩
        clear hg
        go_wp2_with fail
        refine (H1.out _).mono ?_
        rintro e w1 ⟨rfl, hb1⟩
        go_wp2_with fail
        refine (H2.out _).mono ?_
        rintro e w2 ⟨rfl, hb2⟩
        go_wp2_with fail
        refine (H3.out _).mono ?_
        rintro e w3 ⟨rfl, hb3⟩
        go_wp2_with fail
        refine (H4.out _).mono ?_
        rintro e w4 ⟨rfl, rfl⟩
        go_wp2
        go_ret
        exact ⟨rfl, (((Below.refl _ _).alloc (Nat.le_refl _) _).trans (hb1.mono (by simp))).trans ((hb2.mono (by have := hb1.size; simp at this; omega)).trans (hb3.mono (by have := hb1.size; have := hb2.size; simp at *; omega)))⟩
    · have he : endsB s.data.toList c = false := by unfold endsB; rw [size_list, decide_eq_false hp, Bool.false_and]
      rw [he, if_neg (by simp), ByteArray.extract_zero_size] at H2
      rw [he] at H1
      clear he
      go_enter Try.func4, Try.ntmps4
      go_wp2_with fail
      refine hg.mono ?_
      rintro e w' ⟨rfl, rfl⟩
      clear hg
      go_wp2_with fail
      refine (H1.out _).mono ?_
      rintro e w1 ⟨rfl, hb1⟩
      go_wp2_with fail
      refine (H2.out _).mono ?_
      rintro e w2 ⟨rfl, hb2⟩
      go_wp2_with fail
      refine (H3.out _).mono ?_
      rintro e w3 ⟨rfl, hb3⟩
      go_wp2_with fail
      refine (H4.out _).mono ?_
      rintro e w4 ⟨rfl, rfl⟩
      go_wp2
      go_ret
      exact ⟨rfl, (((Below.refl _ _).alloc (Nat.le_refl _) _).trans (hb1.mono (by simp))).trans ((hb2.mono (by have := hb1.size; simp at this; omega)).trans (hb3.mono (by have := hb1.size; have := hb2.size; simp at *; omega)))⟩
theorem fnWireTrims_any (s : ByteArray) (c : Int) (w : World) (_ : s.size ≤ maxLen) (_ : (Lit.int .u8 c).wf = true) :
    Calls Try.prog 4 #[.string s, .int .u8 c] w fun e w' => e = .returned (.bool true) ∧ Below w.heap.size w w' := by
  by_cases h : s.size ≤ 2147483647
  · exact law_walk s c w h
  · have h' : 2147483647 < s.size := by omega
    go_enter Try.func4, Try.ntmps4
    go_wp2
    go_ret
    exact ⟨rfl, Below.refl _ _⟩
end Go.Proofs.Ytegfdgmbhnfeeaa
