/- Trimming at a text's end: the package's HasSuffixByte, TrimSuffixByte, TrimSuffixWhitespace, and the reference's Behind, walked. -/
import Derived.Test.YtegfdgmbhnfeeaaProg
import Derived.Test.YtegfdgmbhnfeeaaBytes
import Derived.WalkLawsBesides
import Derived.WalkSpells
import Derived.BigQuiet
import Derived.Laws.BytesArg
import Derived.Lib.Hide
namespace Go.Proofs.Ytegfdgmbhnfeeaa
open Go.RowKit
theorem strOfNums_atL (l : List UInt8) (n : Nat) (h : n ≤ l.length) : strOfNums ((List.range n).map (atL l)) = ⟨(l.take n).toArray⟩ := by
  apply ByteArray.ext
  apply Array.toList_inj.1
  rw [strOfNums_data]
  apply List.ext_getElem?
  intro i
  by_cases hi : i < n
  · simp [hi, atL, List.getElem?_eq_getElem (show i < l.length by omega)]
  · simp [hi]; omega
/-- A slice of bytes back into a text. -/
theorem run_back (W : World) (g o n cap : Nat) (l : List UInt8) (h : n ≤ l.length) (hc : BytesAt W g o l) : (convert 22 9 (.slice (some ⟨g, o, none⟩) n cap)).run Try.prog W = .ok (.string ⟨(l.take n).toArray⟩) W := by
  rw [← strOfNums_atL l n h]
  refine run_convert_bytes_arg _ _ 5 Try.underlying22 Try.underlying5 _ o n cap _ (by simp) (fun i hi => ?_) 9 Try.underlying9
  rw [hc i (by omega)]
  simp [List.getD_eq_getElem?_getD, hi]
theorem conv_cap (s : ByteArray) (w : World) : s.size ≤ convCap w s := grownCap_ge _ _ _ _
theorem take_str (s : ByteArray) (n : Nat) : (⟨(s.data.toList.take n).toArray⟩ : ByteArray) = s.extract 0 n := by
  apply ByteArray.ext
  rw [ByteArray.data_extract]
  apply Array.toList_inj.1
  simp
def isSp (c : Int) : Bool := c == 32 || c == 9 || c == 10 || c == 13
/-- The length without white space at the end, of the first n bytes. -/
def beh (l : List UInt8) : Nat → Nat
  | 0 => 0
  | n + 1 => if isSp (atL l n) then beh l n else n + 1
theorem beh_le (l : List UInt8) : ∀ n, beh l n ≤ n
  | 0 => Nat.le_refl _
  | n + 1 => by
    unfold beh
    have := beh_le l n
    split <;> omega
def endsB (l : List UInt8) (c : Int) : Bool := decide (0 < l.length) && (atL l (l.length - 1) == c)
theorem hasSuffix (g cap : Nat) (l : List UInt8) (c : Int) (w : World) (hs : l.length ≤ 2147483647) (hc : BytesAt w g 0 l) :
    Calls Try.prog 27 #[.slice (some ⟨g, 0, none⟩) l.length cap, .int .u8 c] w fun e w' => e = .returned (.bool (endsB l c)) ∧ w = w' := by
  unfold endsB
  by_cases h : 0 < l.length
  · have ck := hc (l.length - 1) (by omega)
    rw [Nat.zero_add] at ck
    have e1 : decide (0 < l.length) = true := by simpa using h
    rw [e1, Bool.true_and]
    have ec : ((l.length : Int) - 1) = ((l.length - 1 : Nat) : Int) := by omega
    generalize atL l (l.length - 1) = a at ck ⊢
    clear hc e1
    generalize l.length = n at *
    obtain ⟨m, hm⟩ : ∃ m, n = m + 1 := ⟨n - 1, by omega⟩
    subst hm
    rw [Nat.add_sub_cancel] at ck ec
    go_enter Try.func27, Try.ntmps27
    go_wp2
    all_goals go_ret
    all_goals (refine ⟨?_, rfl⟩; simp_all)
  · have e1 : decide (0 < l.length) = false := by simpa using h
    rw [e1, Bool.false_and]
    generalize l.length = n at *
    obtain rfl : n = 0 := by omega
    clear hc e1
    go_enter Try.func27, Try.ntmps27
    go_wp2
    go_ret
    exact ⟨rfl, rfl⟩
theorem trimByte (g cap : Nat) (l : List UInt8) (c : Int) (w : World) (hs : l.length ≤ 2147483647) (hcap : l.length ≤ cap) (hc : BytesAt w g 0 l) :
    Calls Try.prog 28 #[.slice (some ⟨g, 0, none⟩) l.length cap, .int .u8 c] w fun e w' => e = .returned (.slice (some ⟨g, 0, none⟩) (if endsB l c then l.length - 1 else l.length) cap) ∧ w = w' := by
  unfold endsB
  by_cases h : 0 < l.length
  · have ck := hc (l.length - 1) (by omega)
    rw [Nat.zero_add] at ck
    have e1 : decide (0 < l.length) = true := by simpa using h
    rw [e1, Bool.true_and]
    generalize atL l (l.length - 1) = a at ck ⊢
    clear hc e1
    generalize l.length = n at *
    obtain ⟨m, hm⟩ : ∃ m, n = m + 1 := ⟨n - 1, by omega⟩
    subst hm
    rw [Nat.add_sub_cancel] at ck ⊢
    by_cases hac : a = c
    · have e2 : (a == c) = true := by simpa using hac
      rw [e2, if_pos rfl]
      clear hac
      go_enter Try.func28, Try.ntmps28
      go_wp2
      go_ret
      exact ⟨rfl, rfl⟩
    · have e2 : (a == c) = false := by simpa using hac
      rw [e2, if_neg (by simp)]
      clear hac
      go_enter Try.func28, Try.ntmps28
      go_wp2
      go_ret
      exact ⟨rfl, rfl⟩
  · have e1 : decide (0 < l.length) = false := by simpa using h
    rw [e1, Bool.false_and, if_neg (by simp)]
    generalize l.length = n at *
    obtain rfl : n = 0 := by omega
    clear hc e1
    go_enter Try.func28, Try.ntmps28
    go_wp2
    go_ret
    exact ⟨rfl, rfl⟩
theorem isSpace (c : Int) (w : World) : Calls Try.prog 30 #[.int .u8 c] w fun e w' => e = .returned (.bool (isSp c)) ∧ w = w' := by
  obtain ⟨b, hb⟩ : ∃ b, b = isSp c := ⟨_, rfl⟩
  rw [← hb]
  have HB := Lib.hid hb
  clear hb
  go_enter Try.func30, Try.ntmps30
  go_wp2
  all_goals go_ret
  all_goals (refine ⟨ret_bool ?_, rfl⟩; rw [HB.out]; unfold isSp; simp_all)
theorem behind (s : ByteArray) (w : World) (hs : s.size ≤ 2147483647) : Calls Try.prog 13 #[.string s] w fun e w' => e = .returned (.int .i64 (beh s.data.toList s.size)) ∧ w = w' := by
  have hst : Hid (beh s.data.toList s.size = beh s.data.toList s.size) := rfl
  have hy : ∀ n, (h : n < s.size) → isSp (s[n]'h).toNat = true → beh s.data.toList (n + 1) = beh s.data.toList n := fun n h q => by
    conv => lhs; unfold beh
    rw [← at_eq s n h, if_pos q]
  have hn : ∀ n, (h : n < s.size) → isSp (s[n]'h).toNat = false → beh s.data.toList (n + 1) = n + 1 := fun n h q => by
    conv => lhs; unfold beh
    rw [← at_eq s n h, if_neg (by rw [q]; simp)]
  have HY := Lib.hid hy
  have HN := Lib.hid hn
  clear hy hn
  have hsp := fun c W => isSpace c W
  generalize hN : beh s.data.toList s.size = N at hst ⊢
  rw [← hN] at hst
  have HS : Hid (beh s.data.toList s.size = N) := hN
  clear hst hN
  go_enter Try.func13, Try.ntmps13
  go_wp2
  go_loop [3] (fun i => ∃ k : Nat, k ≤ s.size ∧ i = .int .i64 k ∧ Hid (beh s.data.toList k = N)) (fun i => (intOf i).toNat)
  case atStart => exact ⟨s.size, Nat.le_refl _, rfl, HS⟩
  case round =>
    obtain ⟨k, hk, rfl, hT⟩ := hrel
    match k, hk, hT with
    | 0, hk, hT =>
      have H : Hid (0 = N) := hT.out
      go_wp2
      go_ret
      exact ⟨ret_i64 (by rw [← H.out]; rfl), rfl⟩
    | m + 1, hk, hT =>
      have hm : m < s.size := by omega
      have ec : (((m + 1 : Nat) : Int) - 1) = ((m : Nat) : Int) := by omega
      obtain ⟨b, hb⟩ : ∃ b, b = isSp (s[m]'hm).toNat := ⟨_, rfl⟩
      have hq := hsp (s[m]'hm).toNat
      rw [← hb] at hq
      cases b
      · have H : Hid (m + 1 = N) := by have := hT.out; rw [HN.out m hm hb.symm] at this; exact this
        clear hb
        go_wp2_with fail
        refine (hq _).mono ?_
        rintro e w' ⟨rfl, rfl⟩
        go_wp2
        go_ret
        exact ⟨ret_i64 (by rw [← H.out]; omega), rfl⟩
      · have H : Hid (beh s.data.toList m = N) := by have := hT.out; rw [HY.out m hm hb.symm] at this; exact this
        clear hb
        go_wp2_with fail
        refine (hq _).mono ?_
        rintro e w' ⟨rfl, rfl⟩
        go_wp2
        go_round
        case rel => exact ⟨m, by omega, by go_num, H⟩
        case measure => simp [intOf]
theorem trimSpace (g cap : Nat) (l : List UInt8) (w : World) (hs : l.length ≤ 2147483647) (hcap : l.length ≤ cap) (hc : BytesAt w g 0 l) :
    Calls Try.prog 29 #[.slice (some ⟨g, 0, none⟩) l.length cap] w fun e w' => e = .returned (.slice (some ⟨g, 0, none⟩) (beh l l.length) cap) ∧ w = w' := by
  have hy : ∀ n, isSp (atL l n) = true → beh l (n + 1) = beh l n := fun n q => by
    conv => lhs; unfold beh
    rw [if_pos q]
  have hn : ∀ n, isSp (atL l n) = false → beh l (n + 1) = n + 1 := fun n q => by
    conv => lhs; unfold beh
    rw [if_neg (by rw [q]; simp)]
  have HY := Lib.hid hy
  have HN := Lib.hid hn
  clear hy hn
  have hck : ∀ k, k < l.length → w.cell? ⟨g, k, none⟩ = some (.int .u8 (atL l k)) := fun k h => by have := hc k (by omega); rwa [Nat.zero_add] at this
  have HC := Lib.hid hck
  clear hck hc
  obtain ⟨n, hnn⟩ : ∃ n, n = l.length := ⟨_, rfl⟩
  rw [← hnn] at hs hcap HC ⊢
  clear hnn
  generalize hN : beh l n = N
  have HS : Hid (beh l n = N) := hN
  clear hN
  go_enter Try.func29, Try.ntmps29
  go_wp2
  go_loop [3] (fun i => ∃ k : Nat, k ≤ n ∧ i = .int .i64 ((k : Int) - 1) ∧ Hid (beh l k = N)) (fun i => (intOf i + 1).toNat)
  case atStart => exact ⟨n, Nat.le_refl _, rfl, HS⟩
  case round =>
    obtain ⟨k, hk, rfl, hT⟩ := hrel
    match k, hk, hT with
    | 0, hk, hT =>
      have H : Hid (0 = N) := hT.out
      have e0 : (((0 : Nat) : Int) - 1) = -1 := rfl
      rw [e0]
      go_wp2
      go_ret
      have := H.out
      subst this
      exact ⟨rfl, rfl⟩
    | m + 1, hk, hT =>
      have hm : m < n := by omega
      have ck := HC.out m hm
      have ec : (((m + 1 : Nat) : Int) - 1) = ((m : Nat) : Int) := by omega
      rw [ec]
      obtain ⟨a, ha⟩ : ∃ a, a = atL l m := ⟨_, rfl⟩
      have hya : isSp a = true → Hid (beh l m = N) := fun q => by have := hT.out; rw [HY.out m (by rw [← ha]; exact q)] at this; exact this
      have hna : isSp a = false → Hid (m + 1 = N) := fun q => by have := hT.out; rw [HN.out m (by rw [← ha]; exact q)] at this; exact this
      have HYA := Lib.hid hya
      have HNA := Lib.hid hna
      rw [← ha] at ck
      clear hya hna ha
      by_cases hsp : isSp a = true
      · have H := HYA.out hsp
        have hor : a = 32 ∨ a = 9 ∨ a = 13 ∨ a = 10 := by unfold isSp at hsp; simp at hsp; omega
        clear hsp
        rcases hor with rfl | rfl | rfl | rfl
        all_goals
          go_wp2
          go_round
          case rel => exact ⟨m, by omega, by go_num, H⟩
          case measure => simp [intOf]
      · have hsp : isSp a = false := by simpa using hsp
        have H := (HNA.out hsp).out
        subst H
        have e1 : (a == 32) = false := by unfold isSp at hsp; simp_all
        have e2 : (a == 9) = false := by unfold isSp at hsp; simp_all
        have e3 : (a == 13) = false := by unfold isSp at hsp; simp_all
        have e4 : (a == 10) = false := by unfold isSp at hsp; simp_all
        clear hsp
        go_wp2
        go_ret
        exact ⟨rfl, rfl⟩
end Go.Proofs.Ytegfdgmbhnfeeaa
