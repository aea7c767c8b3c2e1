/- A simple number at the beginning of a text: the package's ConsumeSimpleNumber, and the reference's Digits and SimpleNumber, walked. -/
import Derived.Test.YtbnnccadnnfomaaProg
import Derived.Test.YtbnnccadnnfomaaBytes
import Derived.WalkLawsBesides
import Derived.WalkSpells
import Derived.BigQuiet
import Derived.Lib.Hide
namespace Go.Proofs.Ytbnnccadnnfomaa
open Go.RowKit
def isDg (c : Int) : Prop := 48 ≤ c ∧ c ≤ 57
instance (c : Int) : Decidable (isDg c) := by unfold isDg; infer_instance
/-- How many digits a list begins with. -/
def dg : List UInt8 → Nat
  | [] => 0
  | c :: r => if isDg (c.toNat : Int) then dg r + 1 else 0
theorem dg_le : ∀ l : List UInt8, dg l ≤ l.length
  | [] => Nat.le_refl _
  | c :: r => by
    unfold dg
    split
    · have := dg_le r; simp; omega
    · simp
theorem drop_at (l : List UInt8) (k : Nat) (h : k < l.length) : l.drop k = l[k]'h :: l.drop (k + 1) := List.drop_eq_getElem_cons h
theorem atL_get (l : List UInt8) (k : Nat) (h : k < l.length) : atL l k = ((l[k]'h).toNat : Int) := by
  unfold atL; rw [List.getD_eq_getElem?_getD, List.getElem?_eq_getElem h]; rfl
theorem dg_yes (l : List UInt8) (k : Nat) (h : k < l.length) (hd : 48 ≤ atL l k ∧ atL l k ≤ 57) : dg (l.drop k) = dg (l.drop (k + 1)) + 1 := by
  rw [atL_get l k h] at hd
  rw [drop_at l k h, dg, if_pos (show isDg _ from hd)]
theorem dg_no (l : List UInt8) (k : Nat) (h : k < l.length) (hd : atL l k < 48 ∨ 57 < atL l k) : dg (l.drop k) = 0 := by
  rw [atL_get l k h] at hd
  rw [drop_at l k h, dg, if_neg (by unfold isDg; omega)]
theorem dg_end (l : List UInt8) (k : Nat) (h : l.length ≤ k) : dg (l.drop k) = 0 := by
  rw [List.drop_of_length_le h]; rfl
/-- Whether a number may end at a place: the text ends there, or no point and no exponent stands there. -/
def ends (l : List UInt8) (n : Nat) : Prop := l.length ≤ n ∨ (¬ atL l n = 46 ∧ ¬ atL l n = 101 ∧ ¬ atL l n = 69)
instance (l : List UInt8) (n : Nat) : Decidable (ends l n) := by unfold ends; infer_instance
def csn (l : List UInt8) : Nat :=
  if l.length = 0 then 0
  else if atL l 0 = 48 then (if ends l 1 then 1 else 0)
  else if 49 ≤ atL l 0 ∧ atL l 0 ≤ 57 then (if ends l (1 + dg (l.drop 1)) then 1 + dg (l.drop 1) else 0)
  else 0
def snN (l : List UInt8) (N : Nat) : Nat × Bool :=
  if 1 < N ∧ atL l 0 = 48 then (0, false) else if N < l.length ∧ (atL l N = 46 ∨ atL l N = 101 ∨ atL l N = 69) then (0, true) else (N, true)
def sn (l : List UInt8) : Nat × Bool := snN l (dg l)
/-- The law in plain words. -/
theorem csn_sn (l : List UInt8) (h : (sn l).2 = true) : csn l = (sn l).1 := by
  have hle := dg_le l
  unfold sn snN at h ⊢
  split at h
  · cases h
  rename_i h1
  rw [if_neg h1]
  clear h
  have heq : (dg l < l.length ∧ (atL l (dg l) = 46 ∨ atL l (dg l) = 101 ∨ atL l (dg l) = 69)) ↔ ¬ ends l (dg l) := by unfold ends; omega
  have hval : (if (dg l < l.length ∧ (atL l (dg l) = 46 ∨ atL l (dg l) = 101 ∨ atL l (dg l) = 69)) then ((0 : Nat), true) else (dg l, true)).1 = if ends l (dg l) then dg l else 0 := by
    by_cases e : ends l (dg l)
    · rw [if_neg (by rw [heq]; exact fun q => q e), if_pos e]
    · rw [if_pos (heq.2 e), if_neg e]
  rw [hval]
  unfold csn
  by_cases h0 : l.length = 0
  · rw [if_pos h0]
    have : dg l = 0 := by omega
    rw [this]; split <;> rfl
  · rw [if_neg h0]
    have e0 : l.drop 0 = l := List.drop_zero
    by_cases h48 : atL l 0 = 48
    · have hd := dg_yes l 0 (by omega) (by omega)
      rw [e0] at hd
      have : dg l = 1 := by omega
      rw [if_pos h48, this]
    · rw [if_neg h48]
      by_cases h9 : 49 ≤ atL l 0 ∧ atL l 0 ≤ 57
      · have hd := dg_yes l 0 (by omega) (by omega)
        rw [e0] at hd
        rw [if_pos h9, hd, Nat.add_comm 1]
      · have hd := dg_no l 0 (by omega) (by omega)
        rw [e0] at hd
        rw [if_neg h9, hd]; split <;> rfl

set_option maxHeartbeats 400000 in
theorem digits (s : ByteArray) (w : World) (hs : s.size ≤ 2147483647) : Calls Try.prog 25 #[.string s] w fun e w' => e = .returned (.int .i64 (dg s.data.toList)) ∧ w = w' := by
  have hy : ∀ k (h : k < s.size), 48 ≤ ((s[k]'h).toNat : Int) → ((s[k]'h).toNat : Int) ≤ 57 → dg (s.data.toList.drop k) = dg (s.data.toList.drop (k + 1)) + 1 := fun k h a b => dg_yes _ k (by rw [size_list]; exact h) (by rw [← at_eq s k h]; exact ⟨a, b⟩)
  have hn : ∀ k (h : k < s.size), (((s[k]'h).toNat : Int) < 48 ∨ 57 < ((s[k]'h).toNat : Int)) → dg (s.data.toList.drop k) = 0 := fun k h a => dg_no _ k (by rw [size_list]; exact h) (by rw [← at_eq s k h]; exact a)
  have he : dg (s.data.toList.drop s.size) = 0 := dg_end _ _ (by rw [size_list]; exact Nat.le_refl _)
  have HY := Lib.hid hy
  have HN := Lib.hid hn
  have HE := Lib.hid he
  clear hy hn he
  have h0 : Hid (0 + dg (s.data.toList.drop 0) = dg s.data.toList) := by rw [List.drop_zero, Nat.zero_add]; rfl
  generalize dg s.data.toList = N at h0 ⊢
  go_enter Try.func25, Try.ntmps25
  go_wp2
  go_loop [3] (fun i => ∃ k : Nat, k ≤ s.size ∧ i = .int .i64 k ∧ Hid (k + dg (s.data.toList.drop k) = N)) (fun i => s.size - (intOf i).toNat)
  case atStart => exact ⟨0, Nat.zero_le _, rfl, h0⟩
  case round =>
    obtain ⟨k, hk, rfl, hT⟩ := hrel
    by_cases hkl : k < s.size
    · by_cases h1 : 48 ≤ ((s[k]'hkl).toNat : Int)
      · by_cases h2 : ((s[k]'hkl).toNat : Int) ≤ 57
        · have H : Hid (k + 1 + dg (s.data.toList.drop (k + 1)) = N) := by
            have := hT.out; rw [HY.out k hkl h1 h2] at this; show _ = _; omega
          go_wp2
          go_round
          case rel => exact ⟨k + 1, by omega, by go_num, H⟩
          case measure => simp [intOf]; omega
        · have H : Hid (k = N) := by have := hT.out; rw [HN.out k hkl (by omega)] at this; show _ = _; omega
          go_wp2
          go_ret
          exact ⟨ret_i64 (by rw [H.out]), rfl⟩
      · have H : Hid (k = N) := by have := hT.out; rw [HN.out k hkl (by omega)] at this; show _ = _; omega
        go_wp2
        go_ret
        exact ⟨ret_i64 (by rw [H.out]), rfl⟩
    · have H : Hid (k = N) := by
        have hk2 : k = s.size := by omega
        have := hT.out; rw [hk2, HE.out] at this; show _ = _; omega
      go_wp2
      go_ret
      exact ⟨ret_i64 (by rw [H.out]), rfl⟩
theorem ret_pair {a b : Int} {x y : Bool} (h : a = b) (k : x = y) : Ending.returned (.tuple #[.int .i64 a, .bool x]) = .returned (.tuple #[.int .i64 b, .bool y]) := by rw [h, k]
def SnPost (s : ByteArray) (N : Nat) (w : World) (e : Ending) (w' : World) : Prop := e = .returned (.tuple #[.int .i64 (snN s.data.toList N).1, .bool (snN s.data.toList N).2]) ∧ w = w'
set_option maxHeartbeats 1000000 in
theorem simpleNumber (s : ByteArray) (w : World) (hs : s.size ≤ 2147483647) : Calls Try.prog 16 #[.string s] w fun e w' => e = .returned (.tuple #[.int .i64 (sn s.data.toList).1, .bool (sn s.data.toList).2]) ∧ w = w' := by
  have hc := digits s w hs
  have hle := dg_le s.data.toList
  rw [size_list] at hle
  unfold sn
  generalize dg s.data.toList = N at hc hle ⊢
  show Calls _ _ _ _ (SnPost s N w)
  go_enter Try.func16, Try.ntmps16
  go_wp2_with fail
  refine hc.mono ?_
  rintro e w' ⟨rfl, rfl⟩
  clear hc
  go_wp2
  all_goals go_ret2
  all_goals simp only [at_eq] at *
  all_goals (refine ⟨ret_pair ?_ ?_, rfl⟩ <;> unfold snN <;> rw [size_list] <;> (repeat' split) <;> first | rfl | (exfalso; omega) | (exfalso; simp at *; omega))
/-- What is told where the digits end at N, the byte there being c. -/
def fin (n N : Nat) (c : Int) : Int := if n ≤ N ∨ (¬ c = 46 ∧ ¬ c = 101 ∧ ¬ c = 69) then N else 0
theorem fin_yes {n N : Nat} {c : Int} (h : n ≤ N ∨ (¬ c = 46 ∧ ¬ c = 101 ∧ ¬ c = 69)) : fin n N c = N := by unfold fin; rw [if_pos h]
theorem fin_no {n N : Nat} {c : Int} (h : ¬ (n ≤ N ∨ (¬ c = 46 ∧ ¬ c = 101 ∧ ¬ c = 69))) : fin n N c = 0 := by unfold fin; rw [if_neg h]
def FinPost (n N : Nat) (c : Int) (w : World) (e : Ending) (w' : World) : Prop := e = .returned (.int .i64 (fin n N c)) ∧ w = w'
set_option maxHeartbeats 1000000 in
theorem consume0 (g cap n : Nat) (c : Int) (w : World) (hs : n ≤ 2147483647) (hn : 0 < n) (c0 : w.cell? ⟨g, 0, none⟩ = some (.int .u8 48)) (c1 : 1 < n → w.cell? ⟨g, 1, none⟩ = some (.int .u8 c)) :
    Calls Try.prog 26 #[.slice (some ⟨g, 0, none⟩) n cap] w (FinPost n 1 c w) := by
  by_cases h : 1 < n
  · have ck := c1 h
    clear c1
    go_enter Try.func26, Try.ntmps26
    go_wp2
    all_goals go_ret
    all_goals refine ⟨ret_i64 ?_, rfl⟩
    all_goals first | exact (fin_yes (by omega)).symm | exact (fin_no (by omega)).symm | exact (fin_yes (by simp at *; omega)).symm | exact (fin_no (by simp at *; omega)).symm
  · clear c1
    go_enter Try.func26, Try.ntmps26
    go_wp2
    all_goals go_ret
    all_goals refine ⟨ret_i64 ?_, rfl⟩
    all_goals first | exact (fin_yes (by omega)).symm | exact (fin_no (by omega)).symm | exact (fin_yes (by simp at *; omega)).symm | exact (fin_no (by simp at *; omega)).symm
set_option maxHeartbeats 1000000 in
theorem consume1 (g cap : Nat) (l : List UInt8) (w : World) (hs : l.length ≤ 2147483647) (hn : 0 < l.length) (hc : BytesAt w g 0 l) (h1 : 49 ≤ atL l 0) (h2 : atL l 0 ≤ 57) :
    Calls Try.prog 26 #[.slice (some ⟨g, 0, none⟩) l.length cap] w (FinPost l.length (1 + dg (l.drop 1)) (atL l (1 + dg (l.drop 1))) w) := by
  have c0 : w.cell? ⟨g, 0, none⟩ = some (.int .u8 (atL l 0)) := hc 0 (by omega)
  have hy := dg_yes l
  have hno := dg_no l
  have he := dg_end l
  have hst : Hid (1 + dg (l.drop 1) = 1 + dg (l.drop 1)) := rfl
  obtain ⟨N, hN⟩ : ∃ N, N = 1 + dg (l.drop 1) := ⟨_, rfl⟩
  rw [← hN] at hst ⊢
  have hNl : N ≤ l.length := by have := dg_le (l.drop 1); rw [List.length_drop] at this; omega
  have HN := Lib.hid hN
  clear hst hN
  obtain ⟨n, hnn⟩ : ∃ n, n = l.length := ⟨_, rfl⟩
  have hcN : N < n → w.cell? ⟨g, N, none⟩ = some (.int .u8 (atL l N)) := fun h => by have := hc N (by omega); rwa [Nat.zero_add] at this
  have hck : ∀ k, k < n → w.cell? ⟨g, k, none⟩ = some (.int .u8 (atL l k)) := fun k h => by have := hc k (by omega); rwa [Nat.zero_add] at this
  rw [← hnn] at hs hn hy hno he hNl ⊢
  obtain ⟨c, hcc⟩ : ∃ c, c = atL l N := ⟨_, rfl⟩
  rw [← hcc] at hcN ⊢
  have HCC := Lib.hid hcc
  clear hcc
  generalize atL l 0 = a at c0 h1 h2
  have HY := Lib.hid hy
  have HNO := Lib.hid hno
  have HE := Lib.hid he
  have HCN := Lib.hid hcN
  have HCK := Lib.hid hck
  clear hy hno he hcN hck hc hnn
  go_enter Try.func26, Try.ntmps26
  go_wp2
  go_loop [2] (fun i => ∃ k : Nat, 1 ≤ k ∧ k ≤ n ∧ i = .int .i64 k ∧ Hid (N = k + dg (l.drop k))) (fun i => n - (intOf i).toNat)
  case atStart => exact ⟨1, Nat.le_refl _, hn, rfl, HN⟩
  case round =>
    obtain ⟨k, hk1, hk, rfl, hT⟩ := hrel
    by_cases hkn : k < n
    · have ck := HCK.out k hkn
      obtain ⟨b, hb⟩ : ∃ b, b = atL l k := ⟨_, rfl⟩
      rw [← hb] at ck
      by_cases q1 : 48 ≤ b
      · by_cases q2 : b ≤ 57
        · have H : Hid (N = k + 1 + dg (l.drop (k + 1))) := by have := hT.out; rw [HY.out k hkn (by rw [← hb]; exact ⟨q1, q2⟩)] at this; show _ = _; omega
          clear hb
          go_wp2
          go_round
          case rel => exact ⟨k + 1, by omega, by omega, by go_num, H⟩
          case measure => simp [intOf]; omega
        · have H : k = N := by have := hT.out; rw [HNO.out k hkn (by rw [← hb]; omega)] at this; omega
          have hbc : b = c := by rw [hb, HCC.out, H]
          clear hb
          subst H
          subst hbc
          go_wp2
          all_goals go_ret
          all_goals refine ⟨ret_i64 ?_, rfl⟩
          all_goals first | exact (fin_yes (by omega)).symm | exact (fin_no (by omega)).symm | exact (fin_yes (by simp at *; omega)).symm | exact (fin_no (by simp at *; omega)).symm
      · have H : k = N := by have := hT.out; rw [HNO.out k hkn (by rw [← hb]; omega)] at this; omega
        have hbc : b = c := by rw [hb, HCC.out, H]
        clear hb
        subst H
        subst hbc
        go_wp2
        all_goals go_ret
        all_goals refine ⟨ret_i64 ?_, rfl⟩
        all_goals first | exact (fin_yes (by omega)).symm | exact (fin_no (by omega)).symm | exact (fin_yes (by simp at *; omega)).symm | exact (fin_no (by simp at *; omega)).symm
    · have H : k = N := by have := hT.out; rw [HE.out k (by omega)] at this; omega
      subst H
      go_wp2
      all_goals go_ret
      all_goals refine ⟨ret_i64 ?_, rfl⟩
      all_goals first | exact (fin_yes (by omega)).symm | exact (fin_no (by omega)).symm | exact (fin_yes (by simp at *; omega)).symm | exact (fin_no (by simp at *; omega)).symm
theorem simple_any (g cap : Nat) (l : List UInt8) (w : World) (hs : l.length ≤ 2147483647) (hc : BytesAt w g 0 l) :
    Calls Try.prog 26 #[.slice (some ⟨g, 0, none⟩) l.length cap] w fun e w' => e = .returned (.int .i64 (csn l)) ∧ w = w' := by
  by_cases h0 : l.length = 0
  · have hp : csn l = 0 := by unfold csn; rw [if_pos h0]
    rw [hp, h0]
    clear hp hc h0 hs
    go_enter Try.func26, Try.ntmps26
    go_wp2
    go_ret
    exact ⟨rfl, rfl⟩
  · have c0 : w.cell? ⟨g, 0, none⟩ = some (.int .u8 (atL l 0)) := hc 0 (by omega)
    have ef : ∀ N, fin l.length N (atL l N) = ((if ends l N then N else 0 : Nat) : Int) := fun N => by
      by_cases h : ends l N
      · rw [fin_yes h, if_pos h]
      · rw [fin_no h, if_neg h]; rfl
    by_cases h48 : atL l 0 = 48
    · have hp : csn l = if ends l 1 then 1 else 0 := by unfold csn; rw [if_neg h0, if_pos h48]
      rw [h48] at c0
      refine (consume0 g cap l.length (atL l 1) w hs (by omega) c0 (fun h => by have := hc 1 (by omega); rwa [Nat.zero_add] at this)).mono ?_
      rintro e w' ⟨rfl, hw⟩
      exact ⟨ret_i64 (by rw [ef, hp]), hw⟩
    · by_cases h9 : 49 ≤ atL l 0 ∧ atL l 0 ≤ 57
      · have hp : csn l = if ends l (1 + dg (l.drop 1)) then 1 + dg (l.drop 1) else 0 := by unfold csn; rw [if_neg h0, if_neg h48, if_pos h9]
        refine (consume1 g cap l w hs (by omega) hc h9.1 h9.2).mono ?_
        rintro e w' ⟨rfl, hw⟩
        exact ⟨ret_i64 (by rw [ef, hp]), hw⟩
      · have hp : csn l = 0 := by unfold csn; rw [if_neg h0, if_neg h48, if_neg h9]
        have h9' : atL l 0 < 48 ∨ 57 < atL l 0 := by omega
        rw [hp]
        have hpos : 0 < l.length := by omega
        generalize atL l 0 = a at c0 h9' h48
        generalize l.length = n at hpos hs ⊢
        clear hp h9 hc ef h0
        have h48' : (a == 48) = false := by simpa using h48
        rcases h9' with h9 | h9
        all_goals
          go_enter Try.func26, Try.ntmps26
          go_wp2
          go_ret
          exact ⟨rfl, rfl⟩
end Go.Proofs.Ytbnnccadnnfomaa
