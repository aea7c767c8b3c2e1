/- The reference's PointerIsValid, walked; nothing is written. -/
import Derived.Test.YtegfdgmbhnfeeaaIsText
import Derived.Test.YtegfdgmbhnfeeaaPtrPlain
namespace Go.Proofs.Ytegfdgmbhnfeeaa
open Go.RowKit
theorem tl_of (s : ByteArray) (k : Nat) (h : ∀ j, j < k → tlAt s.data.toList j) (hk : tlAt s.data.toList k) : ∀ j, j < k + 1 → tlAt s.data.toList j := fun j hj => by
  by_cases e : j = k
  · subst e; exact hk
  · exact h j (by omega)
set_option maxHeartbeats 1000000 in
/-- The loop's part: a pointer whose first byte is a slash, or an empty one. -/
theorem ptrValid_loop (s : ByteArray) (w : World) (hs : s.size ≤ 2147483647) (hT : Calls Try.prog 21 #[.string s] w fun e w' => e = .returned (.bool true) ∧ w = w')
    (hne : Hid (isTxt s.data.toList = true)) (hfirst : s.size = 0 ∧ (!s.toList.isEmpty) = false ∨ (!s.toList.isEmpty) = true ∧ ∃ h0 : 0 < s.size, ((s[0]'h0).toNat : Int) = 47) :
    Calls Try.prog 31 #[.string s] w fun e w' => e = .returned (.bool (pv s.data.toList)) ∧ w = w' := by
  have hp3 := pv_false3 s.data.toList
  have hp4 := pv_true s.data.toList hne.out
  rw [size_list] at hp3 hp4
  have hat : ∀ k (h : k < s.size), ((s[k]'h).toNat : Int) = atL s.data.toList k := fun k h => at_eq s k h
  generalize pv s.data.toList = g at hp3 hp4 ⊢
  have P3 := Lib.hid hp3
  have HAT := Lib.hid hat
  have P4 : Hid ((∀ i, i < s.size → tlAt s.data.toList i) → g = true) := fun q => hp4 (by
    rcases hfirst with ⟨h, _⟩ | ⟨_, h0, h⟩
    · exact Or.inl h
    · right; rw [← hat 0 h0]; exact h) q
  clear hp3 hp4 hat
  have both : (s.size = 0 ∧ (!s.toList.isEmpty) = false) ∨ (!s.toList.isEmpty) = true ∧ ∃ h0 : 0 < s.size, (((s[0]'h0).toNat : Int) != 47) = false := by
    rcases hfirst with h | ⟨h, h0, e⟩
    · exact Or.inl h
    · exact Or.inr ⟨h, h0, by rw [e]; rfl⟩
  clear hfirst
  rcases both with ⟨hz, hz2⟩ | ⟨hz2, h0, h47⟩
  · have HZ := Lib.hid hz
    have hle : s.size ≤ 0 := by omega
    clear hz
    go_enter Try.func31, Try.ntmps31
    go_wp2_with fail
    refine hT.mono ?_
    rintro e w' ⟨rfl, rfl⟩
    clear hT
    go_wp2
    refine wp_loop_rounds 1 ?_
    rw [rounds_succ]
    go_wp2
    go_ret
    exact ⟨ret_bool (P4.out fun i hi => by omega).symm, rfl⟩
  · go_enter Try.func31, Try.ntmps31
    go_wp2_with fail
    refine hT.mono ?_
    rintro e w' ⟨rfl, rfl⟩
    clear hT
    go_wp2
    go_loop [18] (fun i => ∃ k : Nat, k ≤ s.size ∧ i = .int .i64 k ∧ Hid (∀ j, j < k → tlAt s.data.toList j)) (fun i => s.size - (intOf i).toNat)
    case atStart => exact ⟨0, Nat.zero_le _, rfl, fun j hj => absurd hj (Nat.not_lt_zero _)⟩
    case round =>
      obtain ⟨k, hk, rfl, hall⟩ := hrel
      by_cases hkl : k < s.size
      · by_cases h126 : ((s[k]'hkl).toNat : Int) = 126
        · have H126 : Hid (atL s.data.toList k = 126) := by rw [← HAT.out k hkl]; exact h126
          have h126' : (((s[k]'hkl).toNat : Int) == 126) = true := by rw [h126]; rfl
          clear h126
          by_cases hk1 : k + 1 < s.size
          · have hks : ((k : Int) + 1 == (s.size : Int)) = false := by simp; omega
            by_cases h48 : ((s[k + 1]'hk1).toNat : Int) = 48
            · have h48' : (((s[k + 1]'hk1).toNat : Int) != 48) = false := by rw [h48]; rfl
              have H1 : Hid (tlAt s.data.toList k) := fun _ => ⟨by rw [size_list]; exact hk1, Or.inl (by rw [← HAT.out _ hk1]; exact h48)⟩
              clear h48
              go_wp2
              go_round
              case rel => exact ⟨k + 1, by omega, by go_num, tl_of s k hall H1.out⟩
              case measure => simp [intOf]; omega
            · have h48' : (((s[k + 1]'hk1).toNat : Int) != 48) = true := by simpa using h48
              by_cases h49 : ((s[k + 1]'hk1).toNat : Int) = 49
              · have h49' : (((s[k + 1]'hk1).toNat : Int) != 49) = false := by rw [h49]; rfl
                have H1 : Hid (tlAt s.data.toList k) := fun _ => ⟨by rw [size_list]; exact hk1, Or.inr (by rw [← HAT.out _ hk1]; exact h49)⟩
                clear h48 h49
                go_wp2
                go_round
                case rel => exact ⟨k + 1, by omega, by go_num, tl_of s k hall H1.out⟩
                case measure => simp [intOf]; omega
              · have h49' : (((s[k + 1]'hk1).toNat : Int) != 49) = true := by simpa using h49
                have H1 : Hid (¬ tlAt s.data.toList k) := fun q => by
                  rcases (q H126.out).2 with q | q <;> rw [← HAT.out _ hk1] at q
                  · exact h48 q
                  · exact h49 q
                clear h48 h49
                go_wp2
                go_ret
                exact ⟨ret_bool (P3.out k hkl H1.out).symm, rfl⟩
          · have hks : ((k : Int) + 1 == (s.size : Int)) = true := by simp; omega
            have H1 : Hid (¬ tlAt s.data.toList k) := fun q => by
              have := (q H126.out).1
              rw [size_list] at this
              exact hk1 this
            go_wp2
            go_ret
            exact ⟨ret_bool (P3.out k hkl H1.out).symm, rfl⟩
        · have H1 : Hid (tlAt s.data.toList k) := fun q => by rw [← HAT.out _ hkl] at q; exact absurd q h126
          have h126' : (((s[k]'hkl).toNat : Int) == 126) = false := by simpa using h126
          clear h126
          go_wp2
          go_round
          case rel => exact ⟨k + 1, by omega, by go_num, tl_of s k hall H1.out⟩
          case measure => simp [intOf]; omega
      · go_wp2
        go_ret
        exact ⟨ret_bool (P4.out fun i hi => hall.out i (by omega)).symm, rfl⟩

set_option maxHeartbeats 400000 in
theorem ptrValid (s : ByteArray) (w : World) (hs : s.size ≤ 2147483647) : Calls Try.prog 31 #[.string s] w fun e w' => e = .returned (.bool (pv s.data.toList)) ∧ w = w' := by
  have hT := isText s w hs
  cases hb : isTxt s.data.toList
  · rw [hb] at hT
    have hp : Hid (pv s.data.toList = false) := pv_false1 _ hb
    clear hb
    generalize pv s.data.toList = g at hp ⊢
    go_enter Try.func31, Try.ntmps31
    go_wp2_with fail
    refine hT.mono ?_
    rintro e w' ⟨rfl, rfl⟩
    clear hT
    go_wp2
    go_ret
    exact ⟨ret_bool hp.out.symm, rfl⟩
  · rw [hb] at hT
    cases hz : s.toList.isEmpty
    · have hz2 : (!s.toList.isEmpty) = true := by rw [hz]; rfl
      have h0 : 0 < s.size := nonempty_of s hz
      by_cases h47 : ((s[0]'h0).toNat : Int) = 47
      · exact ptrValid_loop s w hs hT hb (Or.inr ⟨hz2, h0, h47⟩)
      · have hp : Hid (pv s.data.toList = false) := pv_false2 _ (by rw [size_list]; exact h0) (by rw [← at_eq s 0 h0]; exact h47)
        have h47' : (((s[0]'h0).toNat : Int) != 47) = true := by simpa using h47
        clear hb h47
        generalize pv s.data.toList = g at hp ⊢
        go_enter Try.func31, Try.ntmps31
        go_wp2_with fail
        refine hT.mono ?_
        rintro e w' ⟨rfl, rfl⟩
        clear hT
        go_wp2
        go_ret
        exact ⟨ret_bool hp.out.symm, rfl⟩
    · have h0 : s.size = 0 := by
        rw [ByteArray.toList_eq] at hz
        rw [← size_list]
        rw [List.isEmpty_iff] at hz
        rw [hz]; rfl
      exact ptrValid_loop s w hs hT hb (Or.inl ⟨h0, by rw [hz]; rfl⟩)
end Go.Proofs.Ytegfdgmbhnfeeaa
