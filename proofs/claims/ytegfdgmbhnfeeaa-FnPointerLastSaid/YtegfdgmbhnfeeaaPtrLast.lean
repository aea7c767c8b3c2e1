/- The package's Pointer.LastToken, walked: the last of a pointer's tokens. -/
import Derived.Test.YtegfdgmbhnfeeaaUnescape
import Derived.Test.YtegfdgmbhnfeeaaTokens
import Derived.Test.YtegfdgmbhnfeeaaPtrMany
namespace Go.Proofs.Ytegfdgmbhnfeeaa
open Go.RowKit
def LixPost (s : ByteArray) (w : World) (e : Ending) (w' : World) : Prop :=
  w = w' ∧ ((e = .returned (.int .i64 (-1)) ∧ ∀ j, j < s.size → ¬ atL s.data.toList j = 47) ∨
    ∃ k : Nat, e = .returned (.int .i64 k) ∧ k < s.size ∧ atL s.data.toList k = 47 ∧ ∀ j, k < j → j < s.size → ¬ atL s.data.toList j = 47)
theorem lastIdx (s : ByteArray) (w : World) (hs : s.size ≤ 2147483647) :
    Calls Try.prog 47 #[.string s, .int .u8 47] w (LixPost s w) := by
  go_enter Try.func47, Try.ntmps47
  go_wp2
  go_loop [5] (fun i => ∃ k : Nat, k ≤ s.size ∧ i = .int .i64 ((k : Int) - 1) ∧ Hid (∀ j, k ≤ j → j < s.size → ¬ atL s.data.toList j = 47)) (fun i => (intOf i + 1).toNat)
  case atStart => exact ⟨s.size, Nat.le_refl _, rfl, fun j h1 h2 => absurd h2 (by omega)⟩
  case round =>
    obtain ⟨k, hk, rfl, hT⟩ := hrel
    match k, hk, hT with
    | 0, hk, hT =>
      have e0 : (((0 : Nat) : Int) - 1) = -1 := rfl
      rw [e0]
      go_wp2
      go_ret
      exact ⟨rfl, .inl ⟨rfl, fun j hj => hT.out j (Nat.zero_le _) hj⟩⟩
    | m + 1, hk, hT =>
      have hm : m < s.size := by omega
      have ec : (((m + 1 : Nat) : Int) - 1) = ((m : Nat) : Int) := by omega
      rw [ec]
      by_cases hc : ((s[m]'hm).toNat : Int) = 47
      · have H : Hid (atL s.data.toList m = 47) := by rw [at_eq] at hc; exact hc
        have e1 : (((s[m]'hm).toNat : Int) == 47) = true := by rw [hc]; rfl
        clear hc
        go_wp2
        go_ret
        exact ⟨rfl, .inr ⟨m, rfl, hm, H.out, fun j h1 h2 => hT.out j (by omega) h2⟩⟩
      · have H : Hid (∀ j, m ≤ j → j < s.size → ¬ atL s.data.toList j = 47) := fun j h1 h2 => by
          by_cases e : j = m
          · subst e; rw [at_eq] at hc; exact hc
          · exact hT.out j (by omega) h2
        have e1 : (((s[m]'hm).toNat : Int) == 47) = false := by simpa using hc
        clear hc
        go_wp2
        go_round
        case rel => exact ⟨m, by omega, by go_num, H⟩
        case measure => simp [intOf]
theorem lastIdx2 (s : ByteArray) (w : World) (hs : s.size ≤ 2147483647) :
    Calls Try.prog 39 #[.string s, .int .u8 47] w (LixPost s w) := by
  have hc := fun W => lastIdx s W hs
  go_enter Try.func39, Try.ntmps39
  go_wp2_with fail
  refine (hc _).mono ?_
  rintro e w' ⟨rfl, h⟩
  clear hc
  rcases h with ⟨rfl, h⟩ | ⟨k, rfl, h1, h2, h3⟩
  · have H := Lib.hid h
    clear h
    go_wp2
    go_ret
    exact ⟨rfl, .inl ⟨rfl, H.out⟩⟩
  · have H2 := Lib.hid h2
    have H3 := Lib.hid h3
    clear h2 h3
    go_wp2
    go_ret
    exact ⟨rfl, .inr ⟨k, rfl, h1, H2.out, H3.out⟩⟩
def slashS : ByteArray := ⟨#[47]⟩
theorem hasPrefixNo (w : World) : Calls Try.prog 52 #[.string ByteArray.empty, .string ⟨#[47]⟩] w fun e w' => e = .returned (.bool false) ∧ w = w' := by
  go_enter Try.func52, Try.ntmps52
  go_wp2
  go_ret
  exact ⟨rfl, rfl⟩
theorem hasPrefixYes (s : ByteArray) (w : World) (h : 0 < s.size) (h0 : atL s.data.toList 0 = 47) (hs : s.size ≤ 2147483647) : Calls Try.prog 52 #[.string s, .string ⟨#[47]⟩] w fun e w' => e = .returned (.bool true) ∧ w = w' := by
  have hx : s.extract 0 1 = ⟨#[47]⟩ := by
    have := extract_one s 0 h
    rw [Nat.zero_add] at this
    rw [this]
    rw [← at_eq s 0 h] at h0
    rw [byte_eq _ 47 h0]
  have e1 : decide ((1 : Int) ≤ (s.size : Int)) = true := by simp; omega
  have e3 : ((s.extract 0 1).toList == [47]) = true := by rw [hx, ByteArray.toList_eq]; rfl
  have h1 : 1 ≤ s.size := h
  clear h0 hx
  go_enter Try.func52, Try.ntmps52
  go_wp2
  go_ret
  exact ⟨rfl, rfl⟩
theorem trimNo (w : World) : Calls Try.prog 41 #[.string ByteArray.empty, .string ⟨#[47]⟩] w fun e w' => e = .returned (.string ByteArray.empty) ∧ w = w' := by
  have hc := fun W => hasPrefixNo W
  have hin : ∀ W, Calls Try.prog 50 #[.string ByteArray.empty, .string ⟨#[47]⟩] W fun e w' => e = .returned (.string ByteArray.empty) ∧ W = w' := fun W => by
    go_enter Try.func50, Try.ntmps50
    go_wp2_with fail
    refine (hc _).mono ?_
    rintro e w' ⟨rfl, rfl⟩
    go_wp2
    go_ret
    exact ⟨rfl, rfl⟩
  clear hc
  go_enter Try.func41, Try.ntmps41
  go_wp2_with fail
  refine (hin _).mono ?_
  rintro e w' ⟨rfl, rfl⟩
  go_wp2
  go_ret
  exact ⟨rfl, rfl⟩
theorem trimYes (s : ByteArray) (w : World) (h : 0 < s.size) (h0 : atL s.data.toList 0 = 47) (hs : s.size ≤ 2147483647) : Calls Try.prog 41 #[.string s, .string ⟨#[47]⟩] w fun e w' => e = .returned (.string (s.extract 1 s.size)) ∧ w = w' := by
  have hc := fun W => hasPrefixYes s W h h0 hs
  clear h0
  have h1 : 1 ≤ s.size := h
  have hin : ∀ W, Calls Try.prog 50 #[.string s, .string ⟨#[47]⟩] W fun e w' => e = .returned (.string (s.extract 1 s.size)) ∧ W = w' := fun W => by
    go_enter Try.func50, Try.ntmps50
    go_wp2_with fail
    refine (hc _).mono ?_
    rintro e w' ⟨rfl, rfl⟩
    go_wp2
    go_ret
    exact ⟨rfl, rfl⟩
  clear hc
  go_enter Try.func41, Try.ntmps41
  go_wp2_with fail
  refine (hin _).mono ?_
  rintro e w' ⟨rfl, rfl⟩
  go_wp2
  go_ret
  exact ⟨rfl, rfl⟩
/-- The last token. -/
def lastT (l : List UInt8) : List UInt8 := (tk l []).getLast?.getD []
theorem esc_no47 : ∀ (t : List UInt8) (j : Nat), j < (esc t).length → ¬ atL (esc t) j = 47
  | [], j, h => by simp [esc] at h
  | x :: t, j, h => by
    have ih := esc_no47 t
    have e1 : esc (x :: t) = (if x = 126 then [126, 48] else if x = 47 then [126, 49] else [x]) ++ esc t := by simp [esc]
    rw [e1] at h ⊢
    have hno : ∀ (p : List UInt8), (∀ c ∈ p, ¬ c = 47) → j < (p ++ esc t).length → ¬ atL (p ++ esc t) j = 47 := fun p hp hj => by
      by_cases hjp : j < p.length
      · rw [atL_app_left _ _ _ hjp]
        intro q
        have hm : p[j]'hjp ∈ p := List.getElem_mem hjp
        have e : atL p j = ((p[j]'hjp).toNat : Int) := by unfold atL; rw [List.getD_eq_getElem?_getD, List.getElem?_eq_getElem hjp]; rfl
        exact hp _ hm (byte_eq _ 47 (by rw [← e, q]; rfl))
      · rw [atL_app_right _ _ _ (by omega)]
        exact ih _ (by rw [List.length_append] at hj; omega)
    refine hno _ (fun c hc => ?_) h
    by_cases h1 : x = 126
    · rw [if_pos h1] at hc; simp at hc; rcases hc with rfl | rfl <;> decide
    · rw [if_neg h1] at hc
      by_cases h2 : x = 47
      · rw [if_pos h2] at hc; simp at hc; rcases hc with rfl | rfl <;> decide
      · rw [if_neg h2] at hc; simp at hc; subst hc; exact h2
/-- The parts of a valid pointer that is not empty. -/
theorem last_parts (l : List UInt8) (h : pv l = true) (h0 : 0 < l.length) : ∃ o, l = ptrOf o ++ 47 :: esc (lastT l) := by
  obtain ⟨h1, h2⟩ := pv_gives l h
  have hp := ptrOf_tk l.length l [] (Nat.le_refl _) h1 (Or.inr h2)
  have hp' : ptrOf (tk l []) = l := by rw [hp]; rfl
  have hne : tk l [] ≠ [] := by
    intro e
    rw [e] at hp'
    have : l = [] := by rw [← hp']; rfl
    rw [this] at h0; simp at h0
  refine ⟨(tk l []).dropLast, ?_⟩
  have e : tk l [] = (tk l []).dropLast ++ [lastT l] := by
    unfold lastT
    rw [List.getLast?_eq_some_getLast hne]
    exact (List.dropLast_concat_getLast hne).symm
  conv => lhs; rw [← hp', e]
  rw [ptrOf_append]
  simp [ptrOf]
/-- Where the last slash stands. -/
theorem last_at (l a b : List UInt8) (k : Nat) (hl : l = a ++ 47 :: b) (hb : ∀ j, j < b.length → ¬ atL b j = 47) (hk : k < l.length) (h47 : atL l k = 47) (hno : ∀ j, k < j → j < l.length → ¬ atL l j = 47) : k = a.length := by
  subst hl
  have h1 : atL (a ++ 47 :: b) a.length = 47 := by rw [atL_app_right _ _ _ (Nat.le_refl _), Nat.sub_self]; rfl
  rcases Nat.lt_trichotomy k a.length with h | h | h
  · exact absurd h1 (hno _ h (by simp))
  · exact h
  · exfalso
    rw [atL_app_right _ _ _ (by omega)] at h47
    obtain ⟨m, hm⟩ : ∃ m, k - a.length = m + 1 := ⟨k - a.length - 1, by omega⟩
    rw [hm, atL_cons] at h47
    simp only [List.length_append, List.length_cons] at hk
    exact hb m (by omega) h47
set_option maxHeartbeats 1000000 in
theorem lastToken (s : ByteArray) (w : World) (hs : s.size ≤ 2147483647) (hv : pv s.data.toList = true) :
    Calls Try.prog 32 #[.string s] w (ReplPost (lastT s.data.toList) w) := by
  have hc := fun W => lastIdx2 s W hs
  by_cases h0 : 0 < s.size
  · obtain ⟨o, ho⟩ := last_parts s.data.toList hv (by rw [size_list]; exact h0)
    have hat := last_at s.data.toList (ptrOf o) (esc (lastT s.data.toList))
    have hne : ¬ ∀ j, j < s.size → ¬ atL s.data.toList j = 47 := fun q => by
      refine q (ptrOf o).length ?_ ?_
      · rw [← size_list]
        have := congrArg List.length ho
        simp only [List.length_append, List.length_cons] at this
        omega
      · rw [ho, atL_app_right _ _ _ (Nat.le_refl _), Nat.sub_self]; rfl
    have hk : ∀ k, k < s.size → atL s.data.toList k = 47 → (∀ j, k < j → j < s.size → ¬ atL s.data.toList j = 47) → k = (ptrOf o).length := fun k h1 h2 h3 =>
      hat k ho (fun j hj => esc_no47 _ j hj) (by rw [size_list]; exact h1) h2 (fun j a b => h3 j a (by rw [size_list] at b; exact b))
    obtain ⟨K, hK⟩ : ∃ K, K = (ptrOf o).length := ⟨_, rfl⟩
    rw [← hK] at hk
    have hKs : K < s.size := by
      have := congrArg List.length ho
      simp only [List.length_append, List.length_cons] at this
      rw [size_list] at this
      omega
    have hq : (s.extract K s.size).data.toList = 47 :: esc (lastT s.data.toList) := by
      rw [ex_drop]
      conv => lhs; rw [ho]
      rw [hK]; simp
    have hqs : (s.extract K s.size).size = s.size - K := by simp [ByteArray.size_extract]
    have ht := fun W => trimYes (s.extract K s.size) W (by rw [hqs]; omega) (by rw [hq]; rfl) (by rw [hqs]; omega)
    have hr : ((s.extract K s.size).extract 1 (s.extract K s.size).size).data.toList = esc (lastT s.data.toList) := by rw [ex_drop, hq]; rfl
    have hu := fun W => unescape ((s.extract K s.size).extract 1 (s.extract K s.size).size) W (by rw [ByteArray.size_extract, hqs]; omega)
    rw [hr, uq_esc] at hu
    generalize lastT s.data.toList = L at hu ⊢
    generalize (s.extract K s.size).extract 1 (s.extract K s.size).size = Y at ht hu
    have HNE := Lib.hid hne
    have HKK := Lib.hid hk
    clear hne hk hr hq hqs hat ho hK hv
    go_enter Try.func32, Try.ntmps32
    go_wp2_with fail
    refine (hc _).mono ?_
    rintro e w' ⟨rfl, h⟩
    clear hc
    rcases h with ⟨rfl, h⟩ | ⟨k, rfl, h1, h2, h3⟩
    · exact absurd h HNE.out
    · have hkk := HKK.out k h1 h2 h3
      subst hkk
      clear h2 h3
      go_wp2_with fail
      refine (ht _).mono ?_
      rintro e w' ⟨rfl, rfl⟩
      go_wp2_with fail
      refine (hu _).mono ?_
      rintro e w1 ⟨rfl, hb⟩
      clear ht hu
      go_wp2
      go_ret
      exact ⟨rfl, hb⟩
  · have he : s = ByteArray.empty := by
      apply ByteArray.ext
      apply Array.ext'
      have : s.data.toList.length = 0 := by rw [size_list]; omega
      rw [List.eq_nil_of_length_eq_zero this]; rfl
    subst he
    have hu := fun W => unescape ByteArray.empty W (by decide)
    have e1 : uq ByteArray.empty.data.toList = lastT ByteArray.empty.data.toList := rfl
    rw [e1] at hu
    generalize lastT ByteArray.empty.data.toList = L at hu ⊢
    have ht := fun W => trimNo W
    clear e1 hv
    go_enter Try.func32, Try.ntmps32
    go_wp2_with fail
    refine (hc _).mono ?_
    rintro e w' ⟨rfl, h⟩
    clear hc
    rcases h with ⟨rfl, h⟩ | ⟨k, rfl, h1, h2, h3⟩
    · clear h
      go_wp2_with fail
      refine (ht _).mono ?_
      rintro e w' ⟨rfl, rfl⟩
      go_wp2_with fail
      refine (hu _).mono ?_
      rintro e w1 ⟨rfl, hb⟩
      clear ht hu
      go_wp2
      go_ret
      exact ⟨rfl, hb⟩
    · exact absurd h1 (by simp)
end Go.Proofs.Ytegfdgmbhnfeeaa
