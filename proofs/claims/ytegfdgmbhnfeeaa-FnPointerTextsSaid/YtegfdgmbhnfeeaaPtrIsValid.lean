/- jsontext's Pointer.IsValid over a valid pointer, impl.PointerIsValid: walked. -/
import Derived.Test.YtegfdgmbhnfeeaaEscTok
import Derived.Laws.RangeAny
namespace Go.Proofs.Ytegfdgmbhnfeeaa
open Go.RowKit
def okV (l : List UInt8) : Prop := isTxt l = true ∧ hd l = true ∧ ∀ i, i < l.length → tlAt l i
def BrS : ByteArray := ⟨#[239, 191, 189]⟩
/-- The mark of what is no character stands there. -/
theorem hasPrefixBr (s : ByteArray) (k : Nat) (w : World) (hk : k + 3 ≤ s.size) (hs : s.size ≤ 2147483647) (h0 : natL (s.data.toList.drop k) 0 = 239) (h1 : natL (s.data.toList.drop k) 1 = 191) (h2 : natL (s.data.toList.drop k) 2 = 189) :
    Calls Try.prog 44 #[.string (s.extract k s.size), .string ⟨#[239, 191, 189]⟩] w fun e w' => e = .returned (.bool true) ∧ w' = w := by
  have hz : (s.extract k s.size).size = s.size - k := by rw [ByteArray.size_extract]; omega
  have he : (s.extract k s.size).extract 0 3 = ⟨#[239, 191, 189]⟩ := by
    apply ByteArray.ext
    apply Array.toList_inj.1
    rw [Lib.extract_data]
    have hd : (s.extract k s.size).data.toList = s.data.toList.drop k := ex_drop s k
    rw [hd]
    have hl : 3 ≤ (s.data.toList.drop k).length := by rw [List.length_drop, size_list]; omega
    generalize s.data.toList.drop k = l at h0 h1 h2 hl
    match l, hl with
    | a :: b :: c :: r, _ =>
      have e0 : a = 239 := UInt8.toNat_inj.1 h0
      have e1 : b = 191 := UInt8.toNat_inj.1 h1
      have e2 : c = 189 := UInt8.toNat_inj.1 h2
      rw [e0, e1, e2]; rfl
  generalize s.extract k s.size = S at *
  have hS : 3 ≤ S.size := by omega
  have hS2 : S.size ≤ 2147483647 := by omega
  clear hz h0 h1 h2 hk
  have h1 : Hid (∀ W, Calls Try.prog 52 #[.string S, .string ⟨#[239, 191, 189]⟩] W fun e w' => e = .returned (.bool true) ∧ w' = W) := Lib.hid fun W => by
    have e1 : decide ((3 : Int) ≤ (S.size : Int)) = true := by simp; omega
    have hq2 : ((S.extract 0 3).toList == [239, 191, 189]) = true := by rw [he, ByteArray.toList_eq]; rfl
    clear he
    go_enter Try.func52, Try.ntmps52
    go_wp2
    go_ret
    exact ⟨rfl, rfl⟩
  clear he hS hS2
  go_enter Try.func44, Try.ntmps44
  go_wp2_with fail
  refine (h1.out _).mono ?_
  rintro e w' ⟨rfl, rfl⟩
  go_wp2
  go_ret
  exact ⟨rfl, rfl⟩
def VPost (w : World) (e : Ending) (w' : World) : Prop := e = .returned (.bool true) ∧ Below w.heap.size w w'
set_option maxRecDepth 100000 in
set_option maxHeartbeats 8000000 in
theorem isValid (s : ByteArray) (w : World) (hs : s.size ≤ 2147483647) (hv : okV s.data.toList) :
    Calls Try.prog 36 #[.string s] w (VPost w) := by
  obtain ⟨ht, hh, htl⟩ := hv
  obtain ⟨n, hn⟩ : ∃ n, n = s.size := ⟨_, rfl⟩
  have HNS := Lib.hid hn
  have HN : Hid (n = s.data.toList.length) := Lib.hid (by rw [hn, size_list])
  have HTL := Lib.hid htl
  have HT0 : Hid (isTxt (s.data.toList.drop 0) = true) := Lib.hid ht
  have hn31 : n ≤ 2147483647 := by omega
  have HS := Lib.hid hs
  have hat : ∀ i (h : i < s.size), ((s[i]'h).toNat : Int) = atL s.data.toList i := fun i h => at_eq s i h
  have HAT := Lib.hid hat
  have HH : Hid (0 < n → atL s.data.toList 0 = 47) := Lib.hid fun h => by
    unfold hd at hh
    have hne : ¬ s.data.toList = [] := fun q => by rw [q] at HN; have := HN.out; simp at this; omega
    simp only [Bool.or_eq_true, List.isEmpty_iff, beq_iff_eq] at hh
    exact hh.resolve_left hne
  clear ht hh htl hn hs hat
  go_enter Try.func36, Try.ntmps36
  go_wp2
  go_loopg [] n (fun q wx => ∃ k : Nat, k ≤ n ∧ q = n - k ∧ wx = w.iter s k ∧ Hid (isTxt (s.data.toList.drop k) = true))
  case atStart => exact ⟨0, Nat.zero_le _, rfl, rfl, HT0⟩
  case round =>
    clear HT0
    obtain ⟨k, hk, rfl, rfl, hT⟩ := hrel
    by_cases hkn : k < n
    · have hks : k < s.size := by rw [← HNS.out]; exact hkn
      have hpos : 0 < (s.data.toList.drop k).length := by rw [List.length_drop, ← HN.out]; omega
      have h0 : ¬ rlL (s.data.toList.drop k) = 0 := fun q => by have := isTxt_no _ hpos q; rw [hT.out] at this; cases this
      have hnx := fun ty => run_next_any (P := Try.prog) w s k ty hks
      rw [decode_drop] at hnx
      have hd2 := decN_two (s.data.toList.drop k) hpos
      have hwr := decW_range (s.data.toList.drop k) hpos
      rw [List.length_drop, ← HN.out] at hwr
      have hts := isTxt_step _ hpos h0
      have hdw : (rlL (s.data.toList.drop k)).toNat = decW (s.data.toList.drop k) := by unfold decW; rw [if_neg h0]
      rw [hdw, List.drop_drop, hT.out] at hts
      rw [hd2] at hnx
      obtain ⟨wd, hwd⟩ : ∃ x, x = decW (s.data.toList.drop k) := ⟨_, rfl⟩
      rw [← hwd] at hnx hwr hts
      have HT1 : Hid (isTxt (s.data.toList.drop (k + wd)) = true) := Lib.hid hts.symm
      have hrl := dec_rl (s.data.toList.drop k).length (natL (s.data.toList.drop k) 0) (natL (s.data.toList.drop k) 1) (natL (s.data.toList.drop k) 2) (natL (s.data.toList.drop k) 3) (by omega) (natL_lt _ _) (natL_lt _ _) (natL_lt _ _) (natL_lt _ _)
      have e : rl (s.data.toList.drop k).length (natL (s.data.toList.drop k) 0) (natL (s.data.toList.drop k) 1) (natL (s.data.toList.drop k) 2) (natL (s.data.toList.drop k) 3) = rlL (s.data.toList.drop k) := rfl
      rw [e] at hrl
      have e2 : Go.Lib.decodeN (s.data.toList.drop k).length (natL (s.data.toList.drop k) 0) (natL (s.data.toList.drop k) 1) (natL (s.data.toList.drop k) 2) (natL (s.data.toList.drop k) 3) = decN (s.data.toList.drop k) := rfl
      have hq := hrl.2 h0
      rw [e2] at hq
      obtain ⟨hq0, hq1, hq2, hq3, _, _⟩ := hq
      have hasc : (decN (s.data.toList.drop k)).1 = 126 → natL (s.data.toList.drop k) 0 = 126 := fun q => by
        by_cases ha : natL (s.data.toList.drop k) 0 < 128
        · have h2 : decN (s.data.toList.drop k) = (natL (s.data.toList.drop k) 0, 1) := by unfold decN Go.Lib.decodeN; rw [if_pos ha]
          rw [h2] at q; exact q
        · have := (hq1 (by omega)).2; omega
      have h3w : (decN (s.data.toList.drop k)).1 = 65533 → k + 3 ≤ n := fun q => by
        have h3 := hq3.1 q
        have hl3 : 3 ≤ wd := by
          have : ¬ natL (s.data.toList.drop k) 0 < 128 := by omega
          have h4 : rlL (s.data.toList.drop k) = 3 := by
            have : rlL (s.data.toList.drop k) = rl (s.data.toList.drop k).length (natL (s.data.toList.drop k) 0) (natL (s.data.toList.drop k) 1) (natL (s.data.toList.drop k) 2) (natL (s.data.toList.drop k) 3) := rfl
            rw [this] at h0 ⊢
            rw [h3.1, h3.2.1, h3.2.2] at h0 ⊢
            unfold rl at h0 ⊢
            (repeat' split) <;> (repeat' split at h0) <;> omega
          rw [hwd]; unfold decW; rw [if_neg h0, h4]; decide
        omega
      clear hrl e e2 hd2 hdw hts hq0 hq1 h0 hwd
      by_cases h126 : (decN (s.data.toList.drop k)).1 = 126
      · have hb := hasc h126
        have hat0 : atL s.data.toList k = 126 := by
          have : natL (s.data.toList.drop k) 0 = natL s.data.toList k := natL_drop _ _ _
          rw [natL_at]; omega
        obtain ⟨hk1, hor⟩ := HTL.out k (by rw [← HN.out]; exact hkn) hat0
        rw [← HN.out] at hk1
        have hks1 : k + 1 < s.size := by rw [← HNS.out]; exact hk1
        have hat1 := HAT.out (k + 1) hks1
        have e1 : ((k : Int) + 1 == (n : Int)) = false := by simp; omega
        have e3 : (126 : Nat) = 126 := rfl
        rw [h126] at hnx
        have hix : (0 : Int) ≤ (k : Int) + 1 := by omega
        have hix2 : ((k : Int) + 1).toNat = k + 1 := by omega
        clear hasc h3w hq2 hq3 hb hat0 h126 hT
        rcases hor with q | q
        · rw [q] at hat1
          go_wp2
          go_roundg (n - (k + wd))
          case measure => omega
          case rel => exact ⟨k + wd, by omega, rfl, rfl, HT1⟩
        · rw [q] at hat1
          go_wp2
          go_roundg (n - (k + wd))
          case measure => omega
          case rel => exact ⟨k + wd, by omega, rfl, rfl, HT1⟩
      · by_cases hbr : (decN (s.data.toList.drop k)).1 = 65533
        · have h3 := hq3.1 hbr
          have hk3 := h3w hbr
          have HP := Lib.hid fun W => hasPrefixBr s k W (by rw [← HNS.out]; exact hk3) HS.out h3.1 h3.2.1 h3.2.2
          rw [hbr] at hnx
          have hix : (k : Int) ≤ (n : Int) := by omega
          clear hasc h3w hq2 hq3 h126 hbr h3 hT
          go_wp2_with fail
          refine (HP.out _).mono ?_
          rintro e w' ⟨rfl, rfl⟩
          go_wp2
          go_roundg (n - (k + wd))
          case measure => omega
          case rel => exact ⟨k + wd, by omega, rfl, rfl, HT1⟩
        · generalize (decN (s.data.toList.drop k)).1 = r at *
          have e126 : ((r : Int) == 126) = false := by simp; omega
          have ebr : ((r : Int) == 65533) = false := by simp; omega
          clear hasc h3w hq2 hq3 h126 hbr hT
          go_wp2
          go_roundg (n - (k + wd))
          case measure => omega
          case rel => exact ⟨k + wd, by omega, rfl, rfl, HT1⟩
    · have hks : ¬ k < s.size := by rw [← HNS.out]; exact hkn
      have hnx := fun ty => run_next_end (P := Try.prog) w s k ty hks
      have hbel : Below w.heap.size w (w.iter s k) := (Below.refl _ w).alloc (Nat.le_refl _) _
      have HBE := Lib.hid hbel
      clear hbel hT
      by_cases hz : n = 0
      · have hs0 : s.size = 0 := by rw [← HNS.out]; exact hz
        have e0 : ((s.size : Int) == 0) = true := by rw [hs0]; rfl
        go_wp2
        go_ret
        exact ⟨rfl, HBE.out⟩
      · have hs0 : 0 < s.size := by rw [← HNS.out]; omega
        have e0 : ((s.size : Int) == 0) = false := beq_eq_false_iff_ne.2 (by omega)
        have h47 := HH.out (by omega)
        have ha0 := HAT.out 0 hs0
        rw [h47] at ha0
        go_wp2
        go_ret
        exact ⟨rfl, HBE.out⟩
theorem implIsValid (s : ByteArray) (w : World) (hs : s.size ≤ 2147483647) (hv : okV s.data.toList) :
    Calls Try.prog 23 #[.string s] w (VPost w) := by
  have HA := Lib.hid (isValid s w hs hv)
  clear hv hs
  go_enter Try.func23, Try.ntmps23
  go_wp2_with fail
  refine HA.out.mono ?_
  rintro e w' ⟨rfl, hb⟩
  have HB := Lib.hid hb
  clear hb HA
  go_wp2
  go_ret
  exact ⟨rfl, HB.out⟩
end Go.Proofs.Ytegfdgmbhnfeeaa
