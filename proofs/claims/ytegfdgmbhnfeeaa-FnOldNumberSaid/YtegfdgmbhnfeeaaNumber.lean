/- Whether a text is a number: the statements' number8 (a machine of nine states) and encoding/json's isValidNumber, walked. -/
import Derived.Test.YtegfdgmbhnfeeaaProg
import Derived.Test.YtegfdgmbhnfeeaaPlain
import Derived.WalkLawsBesides
import Derived.WalkSpells
import Derived.BigQuiet
import Derived.Lib.Hide
import Derived.Lib.Strings
import Derived.Deep.LoopGhost
import Derived.Deep.DeepCutAuto
namespace Go.Proofs.Ytegfdgmbhnfeeaa
open Go.RowKit
/-- One step of the machine; 9: refused. -/
def dstep (q : Nat) (c : Int) : Nat :=
  if q = 0 ∧ c = 45 then 1
  else if q ≤ 1 ∧ c = 48 then 2
  else if (q ≤ 1 ∨ q = 3) ∧ (48 ≤ c ∧ c ≤ 57) then 3
  else if (q = 2 ∨ q = 3) ∧ c = 46 then 4
  else if (q = 4 ∨ q = 5) ∧ (48 ≤ c ∧ c ≤ 57) then 5
  else if (q = 2 ∨ q = 3 ∨ q = 5) ∧ (c = 101 ∨ c = 69) then 6
  else if q = 6 ∧ (c = 43 ∨ c = 45) then 7
  else if 6 ≤ q ∧ (48 ≤ c ∧ c ≤ 57) then 8
  else 9
def dfin (q : Nat) : Bool := q == 2 || q == 3 || q == 5 || q == 8
/-- The machine over a list. -/
def drun : Nat → List UInt8 → Bool
  | q, [] => dfin q
  | q, c :: r => if dstep q (c.toNat : Int) = 9 then false else drun (dstep q (c.toNat : Int)) r
theorem drun_no {q : Nat} {l : List UInt8} (k : Nat) (h : k < l.length) (hd : dstep q (atL l k) = 9) : drun q (l.drop k) = false := by
  have e : l.drop k = l[k]'h :: l.drop (k + 1) := List.drop_eq_getElem_cons h
  have ea : atL l k = ((l[k]'h).toNat : Int) := by unfold atL; rw [List.getD_eq_getElem?_getD, List.getElem?_eq_getElem h]; rfl
  rw [ea] at hd
  rw [e, drun, if_pos hd]
theorem drun_go {q : Nat} {l : List UInt8} (k q' : Nat) (h : k < l.length) (hd : dstep q (atL l k) = q') (h9 : ¬ q' = 9) : drun q (l.drop k) = drun q' (l.drop (k + 1)) := by
  have e : l.drop k = l[k]'h :: l.drop (k + 1) := List.drop_eq_getElem_cons h
  have ea : atL l k = ((l[k]'h).toNat : Int) := by unfold atL; rw [List.getD_eq_getElem?_getD, List.getElem?_eq_getElem h]; rfl
  rw [ea] at hd
  rw [e, drun, hd, if_neg h9]
theorem drun_end {q : Nat} {l : List UInt8} (k : Nat) (h : l.length ≤ k) : drun q (l.drop k) = dfin q := by
  rw [List.drop_of_length_le h]; rfl
/-- What the machine does with the state q at the byte c: it goes on in q', or refuses. -/
def N8 (R : Bool) (l : List UInt8) (k q : Nat) : Prop := drun q (l.drop k) = R ∧ q ≤ 8
set_option maxRecDepth 100000 in
set_option maxHeartbeats 8000000 in
theorem number8 (s : ByteArray) (w : World) (hs : s.size ≤ 2147483647) :
    Calls Try.prog 19 #[.string s] w fun e w' => e = .returned (.bool (drun 0 s.data.toList)) ∧ w = w' := by
  have h0 : Hid (N8 (drun 0 s.data.toList) s.data.toList 0 0) := ⟨by rw [List.drop_zero], by omega⟩
  have hgo : ∀ (q k : Nat) (h : k < s.size) (q' : Nat) (R : Bool), N8 R s.data.toList k q → dstep q ((s[k]'h).toNat : Int) = q' → q' ≤ 8 → N8 R s.data.toList (k + 1) q' := fun q k h q' R hn hd h8 => by
    rw [at_eq] at hd
    exact ⟨by rw [← hn.1, drun_go k q' (by rw [size_list]; exact h) hd (by omega)], h8⟩
  have hno : ∀ (q k : Nat) (h : k < s.size) (R : Bool), N8 R s.data.toList k q → dstep q ((s[k]'h).toNat : Int) = 9 → false = R := fun q k h R hn hd => by
    rw [at_eq] at hd
    rw [← hn.1, drun_no k (by rw [size_list]; exact h) hd]
  have hend : ∀ (q : Nat) (R : Bool), N8 R s.data.toList s.size q → dfin q = R := fun q R hn => by
    rw [← hn.1, drun_end _ (by rw [size_list]; exact Nat.le_refl _)]
  generalize drun 0 s.data.toList = R at h0 ⊢
  have HGO := Lib.hid hgo
  have HNO := Lib.hid hno
  have HEND := Lib.hid hend
  clear hgo hno hend
  go_enter Try.func19, Try.ntmps19
  go_wp2
  go_loopg [3, 9] s.size (fun g q i wx => w = wx ∧ ∃ k p : Nat, k ≤ s.size ∧ g = s.size - k ∧ i = .int .i64 k ∧ q = .int .i64 p ∧ Hid (N8 R s.data.toList k p))
  case atStart => exact ⟨rfl, 0, 0, Nat.zero_le _, rfl, rfl, rfl, h0⟩
  case round =>
    obtain ⟨rfl, k, p, hk, rfl, rfl, rfl, hN⟩ := hrel
    have hp8 := hN.out.2
    by_cases hkl : k < s.size
    · have hgo2 := fun q => HGO.out p k hkl q R hN.out
      have hno2 := HNO.out p k hkl R hN.out
      have HGO2 := Lib.hid hgo2
      have HNO2 := Lib.hid hno2
      clear hgo2 hno2
      have hkz : (k : Int) < (s.size : Int) := by omega
      go_upto_region 6 with fail
      go_cut [3, 5, 6] (fun st by5 v wx => w = wx ∧ st = .int .i64 p ∧ by5 = .int .u8 ((s[k]'hkl).toNat : Int) ∧ ∃ b : Bool, v = .bool b ∧ Hid (b = true ↔ (48 ≤ ((s[k]'hkl).toNat : Int) ∧ ((s[k]'hkl).toNat : Int) ≤ 57)))
      case first =>
        go_wp2
        all_goals
          go_meet
          refine ⟨rfl, congrArg (Value.int .i64) (by omega), congrArg (Value.int .u8) (by omega), _, rfl, ?_⟩
          show _ ↔ _
          (try rw [Bool.or_eq_true]); (try rw [decide_eq_true_eq]); (repeat rw [beq_iff_eq]); (try simp only [reduceCtorEq]); (try simp only [false_iff]); (try simp only [true_iff])
          omega
      case rest =>
      obtain ⟨rfl, rfl, rfl, bn, rfl, hbn⟩ := hcut
      go_upto_region 8 with fail
      go_cut [3, 5, 21] (fun st by5 v wx => w = wx ∧ st = .int .i64 p ∧ by5 = .int .u8 ((s[k]'hkl).toNat : Int) ∧ ∃ b : Bool, v = .bool b ∧ Hid (b = true ↔ (p = 0 ∧ ((s[k]'hkl).toNat : Int) = 45)))
      case first =>
        go_wp2
        all_goals
          go_meet
          refine ⟨rfl, congrArg (Value.int .i64) (by omega), congrArg (Value.int .u8) (by omega), _, rfl, ?_⟩
          show _ ↔ _
          (try rw [Bool.or_eq_true]); (try rw [decide_eq_true_eq]); (repeat rw [beq_iff_eq]); (try simp only [reduceCtorEq]); (try simp only [false_iff]); (try simp only [true_iff])
          omega
      case rest =>
      obtain ⟨rfl, rfl, rfl, b1, rfl, h1⟩ := hcut
      cases b1
      rotate_left
      · have hd : dstep p ((s[k]'hkl).toNat : Int) = 1 := by
          have g1 := h1.out.1 rfl
          unfold dstep
          ((repeat' split) <;> omega)
        have H := Lib.hid (HGO2.out 1 hd (by omega))
        clear hd
        go_wp2
        go_roundg (s.size - (k + 1))
        case measure => omega
        case rel => exact ⟨rfl, k + 1, 1, by omega, rfl, by go_num, rfl, H⟩
      go_upto_region 10 with fail
      go_cut [3, 5, 28] (fun st by5 v wx => w = wx ∧ st = .int .i64 p ∧ by5 = .int .u8 ((s[k]'hkl).toNat : Int) ∧ ∃ b : Bool, v = .bool b ∧ Hid (b = true ↔ (p ≤ 1 ∧ ((s[k]'hkl).toNat : Int) = 48)))
      case first =>
        go_wp2
        all_goals
          go_meet
          refine ⟨rfl, congrArg (Value.int .i64) (by omega), congrArg (Value.int .u8) (by omega), _, rfl, ?_⟩
          show _ ↔ _
          (try rw [Bool.or_eq_true]); (try rw [decide_eq_true_eq]); (repeat rw [beq_iff_eq]); (try simp only [reduceCtorEq]); (try simp only [false_iff]); (try simp only [true_iff])
          omega
      case rest =>
      obtain ⟨rfl, rfl, rfl, b2, rfl, h2⟩ := hcut
      cases b2
      rotate_left
      · have hd : dstep p ((s[k]'hkl).toNat : Int) = 2 := by
          have g1 : ¬ _ := fun z => Bool.noConfusion (h1.out.2 z)
          have g2 := h2.out.1 rfl
          unfold dstep
          ((repeat' split) <;> omega)
        have H := Lib.hid (HGO2.out 2 hd (by omega))
        clear hd
        go_wp2
        go_roundg (s.size - (k + 1))
        case measure => omega
        case rel => exact ⟨rfl, k + 1, 2, by omega, rfl, by go_num, rfl, H⟩
      go_upto_region 12 with fail
      go_cut [3, 5, 35] (fun st by5 v wx => w = wx ∧ st = .int .i64 p ∧ by5 = .int .u8 ((s[k]'hkl).toNat : Int) ∧ ∃ b : Bool, v = .bool b ∧ Hid (b = true ↔ ((p ≤ 1 ∨ p = 3) ∧ (48 ≤ ((s[k]'hkl).toNat : Int) ∧ ((s[k]'hkl).toNat : Int) ≤ 57))))
      case first =>
        cases bn
        all_goals
          go_wp2
          all_goals
            go_meet
            refine ⟨rfl, congrArg (Value.int .i64) (by omega), congrArg (Value.int .u8) (by omega), _, rfl, ?_⟩
            have hbn' := hbn.out
            (try simp only [reduceCtorEq] at hbn'); (try simp only [false_iff] at hbn'); (try simp only [true_iff] at hbn')
            show _ ↔ _
            (try rw [decide_eq_true_eq]); (repeat rw [beq_iff_eq]); (try simp only [reduceCtorEq]); (try simp only [false_iff]); (try simp only [true_iff])
            omega
      case rest =>
      obtain ⟨rfl, rfl, rfl, b3, rfl, h3⟩ := hcut
      cases b3
      rotate_left
      · have hd : dstep p ((s[k]'hkl).toNat : Int) = 3 := by
          have g1 : ¬ _ := fun z => Bool.noConfusion (h1.out.2 z)
          have g2 : ¬ _ := fun z => Bool.noConfusion (h2.out.2 z)
          have g3 := h3.out.1 rfl
          unfold dstep
          ((repeat' split) <;> omega)
        have H := Lib.hid (HGO2.out 3 hd (by omega))
        clear hd
        go_wp2
        go_roundg (s.size - (k + 1))
        case measure => omega
        case rel => exact ⟨rfl, k + 1, 3, by omega, rfl, by go_num, rfl, H⟩
      go_upto_region 14 with fail
      go_cut [3, 5, 48] (fun st by5 v wx => w = wx ∧ st = .int .i64 p ∧ by5 = .int .u8 ((s[k]'hkl).toNat : Int) ∧ ∃ b : Bool, v = .bool b ∧ Hid (b = true ↔ ((p = 2 ∨ p = 3) ∧ ((s[k]'hkl).toNat : Int) = 46)))
      case first =>
        go_wp2
        all_goals
          go_meet
          refine ⟨rfl, congrArg (Value.int .i64) (by omega), congrArg (Value.int .u8) (by omega), _, rfl, ?_⟩
          show _ ↔ _
          (try rw [Bool.or_eq_true]); (try rw [decide_eq_true_eq]); (repeat rw [beq_iff_eq]); (try simp only [reduceCtorEq]); (try simp only [false_iff]); (try simp only [true_iff])
          omega
      case rest =>
      obtain ⟨rfl, rfl, rfl, b4, rfl, h4⟩ := hcut
      cases b4
      rotate_left
      · have hd : dstep p ((s[k]'hkl).toNat : Int) = 4 := by
          have g1 : ¬ _ := fun z => Bool.noConfusion (h1.out.2 z)
          have g2 : ¬ _ := fun z => Bool.noConfusion (h2.out.2 z)
          have g3 : ¬ _ := fun z => Bool.noConfusion (h3.out.2 z)
          have g4 := h4.out.1 rfl
          unfold dstep
          ((repeat' split) <;> omega)
        have H := Lib.hid (HGO2.out 4 hd (by omega))
        clear hd
        go_wp2
        go_roundg (s.size - (k + 1))
        case measure => omega
        case rel => exact ⟨rfl, k + 1, 4, by omega, rfl, by go_num, rfl, H⟩
      go_upto_region 16 with fail
      go_cut [3, 5, 59] (fun st by5 v wx => w = wx ∧ st = .int .i64 p ∧ by5 = .int .u8 ((s[k]'hkl).toNat : Int) ∧ ∃ b : Bool, v = .bool b ∧ Hid (b = true ↔ ((p = 4 ∨ p = 5) ∧ (48 ≤ ((s[k]'hkl).toNat : Int) ∧ ((s[k]'hkl).toNat : Int) ≤ 57))))
      case first =>
        cases bn
        all_goals
          go_wp2
          all_goals
            go_meet
            refine ⟨rfl, congrArg (Value.int .i64) (by omega), congrArg (Value.int .u8) (by omega), _, rfl, ?_⟩
            have hbn' := hbn.out
            (try simp only [reduceCtorEq] at hbn'); (try simp only [false_iff] at hbn'); (try simp only [true_iff] at hbn')
            show _ ↔ _
            (try rw [decide_eq_true_eq]); (repeat rw [beq_iff_eq]); (try simp only [reduceCtorEq]); (try simp only [false_iff]); (try simp only [true_iff])
            omega
      case rest =>
      obtain ⟨rfl, rfl, rfl, b5, rfl, h5⟩ := hcut
      cases b5
      rotate_left
      · have hd : dstep p ((s[k]'hkl).toNat : Int) = 5 := by
          have g1 : ¬ _ := fun z => Bool.noConfusion (h1.out.2 z)
          have g2 : ¬ _ := fun z => Bool.noConfusion (h2.out.2 z)
          have g3 : ¬ _ := fun z => Bool.noConfusion (h3.out.2 z)
          have g4 : ¬ _ := fun z => Bool.noConfusion (h4.out.2 z)
          have g5 := h5.out.1 rfl
          unfold dstep
          ((repeat' split) <;> omega)
        have H := Lib.hid (HGO2.out 5 hd (by omega))
        clear hd
        go_wp2
        go_roundg (s.size - (k + 1))
        case measure => omega
        case rel => exact ⟨rfl, k + 1, 5, by omega, rfl, by go_num, rfl, H⟩
      go_upto_region 18 with fail
      go_cut [3, 5, 69] (fun st by5 v wx => w = wx ∧ st = .int .i64 p ∧ by5 = .int .u8 ((s[k]'hkl).toNat : Int) ∧ ∃ b : Bool, v = .bool b ∧ Hid (b = true ↔ ((p = 2 ∨ p = 3 ∨ p = 5) ∧ (((s[k]'hkl).toNat : Int) = 101 ∨ ((s[k]'hkl).toNat : Int) = 69))))
      case first =>
        go_wp2
        all_goals
          go_meet
          refine ⟨rfl, congrArg (Value.int .i64) (by omega), congrArg (Value.int .u8) (by omega), _, rfl, ?_⟩
          show _ ↔ _
          (try rw [Bool.or_eq_true]); (try rw [decide_eq_true_eq]); (repeat rw [beq_iff_eq]); (try simp only [reduceCtorEq]); (try simp only [false_iff]); (try simp only [true_iff])
          omega
      case rest =>
      obtain ⟨rfl, rfl, rfl, b6, rfl, h6⟩ := hcut
      cases b6
      rotate_left
      · have hd : dstep p ((s[k]'hkl).toNat : Int) = 6 := by
          have g1 : ¬ _ := fun z => Bool.noConfusion (h1.out.2 z)
          have g2 : ¬ _ := fun z => Bool.noConfusion (h2.out.2 z)
          have g3 : ¬ _ := fun z => Bool.noConfusion (h3.out.2 z)
          have g4 : ¬ _ := fun z => Bool.noConfusion (h4.out.2 z)
          have g5 : ¬ _ := fun z => Bool.noConfusion (h5.out.2 z)
          have g6 := h6.out.1 rfl
          unfold dstep
          ((repeat' split) <;> omega)
        have H := Lib.hid (HGO2.out 6 hd (by omega))
        clear hd
        go_wp2
        go_roundg (s.size - (k + 1))
        case measure => omega
        case rel => exact ⟨rfl, k + 1, 6, by omega, rfl, by go_num, rfl, H⟩
      go_upto_region 20 with fail
      go_cut [3, 5, 88] (fun st by5 v wx => w = wx ∧ st = .int .i64 p ∧ by5 = .int .u8 ((s[k]'hkl).toNat : Int) ∧ ∃ b : Bool, v = .bool b ∧ Hid (b = true ↔ (p = 6 ∧ (((s[k]'hkl).toNat : Int) = 43 ∨ ((s[k]'hkl).toNat : Int) = 45))))
      case first =>
        go_wp2
        all_goals
          go_meet
          refine ⟨rfl, congrArg (Value.int .i64) (by omega), congrArg (Value.int .u8) (by omega), _, rfl, ?_⟩
          show _ ↔ _
          (try rw [Bool.or_eq_true]); (try rw [decide_eq_true_eq]); (repeat rw [beq_iff_eq]); (try simp only [reduceCtorEq]); (try simp only [false_iff]); (try simp only [true_iff])
          omega
      case rest =>
      obtain ⟨rfl, rfl, rfl, b7, rfl, h7⟩ := hcut
      cases b7
      rotate_left
      · have hd : dstep p ((s[k]'hkl).toNat : Int) = 7 := by
          have g1 : ¬ _ := fun z => Bool.noConfusion (h1.out.2 z)
          have g2 : ¬ _ := fun z => Bool.noConfusion (h2.out.2 z)
          have g3 : ¬ _ := fun z => Bool.noConfusion (h3.out.2 z)
          have g4 : ¬ _ := fun z => Bool.noConfusion (h4.out.2 z)
          have g5 : ¬ _ := fun z => Bool.noConfusion (h5.out.2 z)
          have g6 : ¬ _ := fun z => Bool.noConfusion (h6.out.2 z)
          have g7 := h7.out.1 rfl
          unfold dstep
          ((repeat' split) <;> omega)
        have H := Lib.hid (HGO2.out 7 hd (by omega))
        clear hd
        go_wp2
        go_roundg (s.size - (k + 1))
        case measure => omega
        case rel => exact ⟨rfl, k + 1, 7, by omega, rfl, by go_num, rfl, H⟩
      go_upto_region 22 with fail
      go_cut [3, 5, 99] (fun st by5 v wx => w = wx ∧ st = .int .i64 p ∧ by5 = .int .u8 ((s[k]'hkl).toNat : Int) ∧ ∃ b : Bool, v = .bool b ∧ Hid (b = true ↔ (6 ≤ p ∧ (48 ≤ ((s[k]'hkl).toNat : Int) ∧ ((s[k]'hkl).toNat : Int) ≤ 57))))
      case first =>
        cases bn
        all_goals
          go_wp2
          all_goals
            go_meet
            refine ⟨rfl, congrArg (Value.int .i64) (by omega), congrArg (Value.int .u8) (by omega), _, rfl, ?_⟩
            have hbn' := hbn.out
            (try simp only [reduceCtorEq] at hbn'); (try simp only [false_iff] at hbn'); (try simp only [true_iff] at hbn')
            show _ ↔ _
            (try rw [decide_eq_true_eq]); (repeat rw [beq_iff_eq]); (try simp only [reduceCtorEq]); (try simp only [false_iff]); (try simp only [true_iff])
            omega
      case rest =>
      obtain ⟨rfl, rfl, rfl, b8, rfl, h8⟩ := hcut
      cases b8
      rotate_left
      · have hd : dstep p ((s[k]'hkl).toNat : Int) = 8 := by
          have g1 : ¬ _ := fun z => Bool.noConfusion (h1.out.2 z)
          have g2 : ¬ _ := fun z => Bool.noConfusion (h2.out.2 z)
          have g3 : ¬ _ := fun z => Bool.noConfusion (h3.out.2 z)
          have g4 : ¬ _ := fun z => Bool.noConfusion (h4.out.2 z)
          have g5 : ¬ _ := fun z => Bool.noConfusion (h5.out.2 z)
          have g6 : ¬ _ := fun z => Bool.noConfusion (h6.out.2 z)
          have g7 : ¬ _ := fun z => Bool.noConfusion (h7.out.2 z)
          have g8 := h8.out.1 rfl
          unfold dstep
          ((repeat' split) <;> omega)
        have H := Lib.hid (HGO2.out 8 hd (by omega))
        clear hd
        go_wp2
        go_roundg (s.size - (k + 1))
        case measure => omega
        case rel => exact ⟨rfl, k + 1, 8, by omega, rfl, by go_num, rfl, H⟩
      have hd : dstep p ((s[k]'hkl).toNat : Int) = 9 := by
        have g1 : ¬ _ := fun z => Bool.noConfusion (h1.out.2 z)
        have g2 : ¬ _ := fun z => Bool.noConfusion (h2.out.2 z)
        have g3 : ¬ _ := fun z => Bool.noConfusion (h3.out.2 z)
        have g4 : ¬ _ := fun z => Bool.noConfusion (h4.out.2 z)
        have g5 : ¬ _ := fun z => Bool.noConfusion (h5.out.2 z)
        have g6 : ¬ _ := fun z => Bool.noConfusion (h6.out.2 z)
        have g7 : ¬ _ := fun z => Bool.noConfusion (h7.out.2 z)
        have g8 : ¬ _ := fun z => Bool.noConfusion (h8.out.2 z)
        unfold dstep
        ((repeat' split) <;> omega)
      have H := Lib.hid (HNO2.out hd)
      clear hd
      go_wp2
      go_ret
      exact ⟨ret_bool H.out, rfl⟩
    · have hkk : k = s.size := by omega
      have hfin := HEND.out p R (by rw [← hkk]; exact hN.out)
      have HF := Lib.hid hfin
      have hkz : ¬ (k : Int) < (s.size : Int) := by omega
      clear hfin hkl hkk
      go_wp2
      all_goals
        go_ret
        refine ⟨ret_bool ?_, rfl⟩
        rw [← HF.out]
        unfold dfin
        have hc9 : p = 0 ∨ p = 1 ∨ p = 2 ∨ p = 3 ∨ p = 4 ∨ p = 5 ∨ p = 6 ∨ p = 7 ∨ p = 8 := by omega
        rcases hc9 with rfl | rfl | rfl | rfl | rfl | rfl | rfl | rfl | rfl <;> first | rfl | (exfalso; omega)
end Go.Proofs.Ytegfdgmbhnfeeaa
