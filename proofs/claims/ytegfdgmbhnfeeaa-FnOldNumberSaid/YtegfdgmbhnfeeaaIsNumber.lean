/- encoding/json's isValidNumber, walked: it says what the machine of nine states says. -/
import Derived.Test.YtegfdgmbhnfeeaaNumber
import Derived.Deep.CutBlock
namespace Go.Proofs.Ytegfdgmbhnfeeaa
open Go.RowKit
/-- A text that the machine still has to read, in the state q. -/
def RR (R : Bool) (q : Nat) (t : ByteArray) : Prop := drun q t.data.toList = R
theorem size_pos_ne (t : ByteArray) (h : 0 < t.size) : (t.toList == ([] : List UInt8)) = false := by
  rw [beq_eq_false_iff_ne]; intro e
  rw [ByteArray.toList_eq] at e
  have := size_list t
  rw [e] at this
  simp at this
  omega
theorem size_zero_eq (t : ByteArray) (h : t.size = 0) : t = ByteArray.empty := by
  apply ByteArray.ext; apply Array.ext'
  have := size_list t
  rw [h] at this
  rw [List.eq_nil_of_length_eq_zero this]; rfl
theorem RR.step {R : Bool} {q : Nat} {t : ByteArray} (h : RR R q t) (h0 : 0 < t.size) (q' : Nat) (hd : dstep q ((t[0]'h0).toNat : Int) = q') (h9 : ¬ q' = 9) : RR R q' (t.extract 1 t.size) := by
  unfold RR at h ⊢
  rw [at_eq] at hd
  have e := drun_go (q := q) (l := t.data.toList) 0 q' (by rw [size_list]; exact h0) hd h9
  rw [List.drop_zero] at e
  rw [← h, e, Lib.extract_data, List.take_of_length_le (by simp)]
theorem RR.step2 {R : Bool} {q : Nat} {t : ByteArray} (h : RR R q t) (h1 : 1 < t.size) (q1 q2 : Nat) (hd : dstep q ((t[0]'(by omega)).toNat : Int) = q1) (h9 : ¬ q1 = 9) (hd2 : dstep q1 ((t[1]'h1).toNat : Int) = q2) (h92 : ¬ q2 = 9) : RR R q2 (t.extract 2 t.size) := by
  unfold RR at h ⊢
  rw [at_eq] at hd hd2
  have e := drun_go (q := q) (l := t.data.toList) 0 q1 (by rw [size_list]; omega) hd h9
  have e2 := drun_go (q := q1) (l := t.data.toList) 1 q2 (by rw [size_list]; omega) hd2 h92
  rw [List.drop_zero] at e
  rw [← h, e, e2, Lib.extract_data, List.take_of_length_le (by simp)]
theorem RR.dead {R : Bool} {q : Nat} {t : ByteArray} (h : RR R q t) (h0 : 0 < t.size) (hd : dstep q ((t[0]'h0).toNat : Int) = 9) : false = R := by
  unfold RR at h
  rw [at_eq] at hd
  have e := drun_no (q := q) (l := t.data.toList) 0 (by rw [size_list]; exact h0) hd
  rw [List.drop_zero] at e
  rw [← h, e]
theorem RR.dead2 {R : Bool} {q : Nat} {t : ByteArray} (h : RR R q t) (h1 : 1 < t.size) (q1 : Nat) (hd : dstep q ((t[0]'(by omega)).toNat : Int) = q1) (h9 : ¬ q1 = 9) (hd2 : dstep q1 ((t[1]'h1).toNat : Int) = 9) : false = R := by
  unfold RR at h
  rw [at_eq] at hd hd2
  have e := drun_go (q := q) (l := t.data.toList) 0 q1 (by rw [size_list]; omega) hd h9
  have e2 := drun_no (q := q1) (l := t.data.toList) 1 (by rw [size_list]; omega) hd2
  rw [List.drop_zero] at e
  rw [← h, e, e2]
theorem RR.short {R : Bool} {q : Nat} {t : ByteArray} (h : RR R q t) (h1 : t.size = 1) (q1 : Nat) (hd : dstep q ((t[0]'(by omega)).toNat : Int) = q1) (h9 : ¬ q1 = 9) : dfin q1 = R := by
  unfold RR at h
  rw [at_eq] at hd
  have e := drun_go (q := q) (l := t.data.toList) 0 q1 (by rw [size_list]; omega) hd h9
  rw [List.drop_zero] at e
  rw [← h, e, drun_end _ (by rw [size_list]; omega)]
theorem RR.fin {R : Bool} {q : Nat} {t : ByteArray} (h : RR R q t) (h0 : t.size = 0) : dfin q = R := by
  unfold RR at h
  rw [← h]
  have e := drun_end (q := q) (l := t.data.toList) 0 (by rw [size_list]; omega)
  rw [List.drop_zero] at e
  rw [e]
/-- In digits, in the state c. -/
def DQ (c : Nat) (R : Bool) (q : Nat) (t : ByteArray) : Prop := RR R q t ∧ q = c
/-- Behind the whole part. -/
def D2 (R : Bool) (q : Nat) (t : ByteArray) : Prop := RR R q t ∧ (q = 2 ∨ q = 3) ∧ ∀ h : 0 < t.size, q = 3 → ¬ (48 ≤ ((t[0]'h).toNat : Int) ∧ ((t[0]'h).toNat : Int) ≤ 57)
/-- A point with a digit behind it. -/
def FR (t : ByteArray) : Prop := ∃ h : 1 < t.size, ((t[0]'(by omega)).toNat : Int) = 46 ∧ 48 ≤ ((t[1]'h).toNat : Int) ∧ ((t[1]'h).toNat : Int) ≤ 57
/-- Behind the fraction. -/
def D4 (R : Bool) (q : Nat) (t : ByteArray) : Prop := RR R q t ∧ (q = 2 ∨ q = 3 ∨ q = 5) ∧ (∀ h : 0 < t.size, ¬ q = 2 → ¬ (48 ≤ ((t[0]'h).toNat : Int) ∧ ((t[0]'h).toNat : Int) ≤ 57)) ∧ (¬ q = 5 → ¬ FR t)
/-- An exponent may follow. -/
def EX (t : ByteArray) : Prop := ∃ h : 1 < t.size, ((t[0]'(by omega)).toNat : Int) = 101 ∨ ((t[0]'(by omega)).toNat : Int) = 69
/-- Behind the e. -/
def D6 (R : Bool) (q : Nat) (t : ByteArray) : Prop := RR R q t ∧ (q = 6 ∨ q = 7 ∨ q = 8) ∧ (¬ q = 8 → 0 < t.size) ∧ (q = 6 → ∀ h : 0 < t.size, ¬ ((t[0]'h).toNat : Int) = 43 ∧ ¬ ((t[0]'h).toNat : Int) = 45)
set_option maxHeartbeats 8000000 in
theorem D4.no {R : Bool} {q : Nat} {t : ByteArray} (h : D4 R q t) (h0 : 0 < t.size) (hx : ¬ EX t) : false = R := by
  obtain ⟨h1, h2, h3, h4⟩ := h
  have h3' := h3 h0
  by_cases hp : ((t[0]'h0).toNat : Int) = 46
  · by_cases h5 : q = 5
    · subst h5
      exact h1.dead h0 (by rw [hp]; rfl)
    · have hd : dstep q ((t[0]'h0).toNat : Int) = 4 := by unfold dstep; ((repeat' split) <;> omega)
      by_cases hs : 1 < t.size
      · refine h1.dead2 hs 4 hd (by omega) ?_
        have : ¬ (48 ≤ ((t[1]'hs).toNat : Int) ∧ ((t[1]'hs).toNat : Int) ≤ 57) := fun z => h4 h5 ⟨hs, hp, z.1, z.2⟩
        unfold dstep; ((repeat' split) <;> omega)
      · rw [← h1.short (by omega) 4 hd (by omega)]; rfl
  · by_cases he : ((t[0]'h0).toNat : Int) = 101 ∨ ((t[0]'h0).toNat : Int) = 69
    · have hd : dstep q ((t[0]'h0).toNat : Int) = 6 := by unfold dstep; ((repeat' split) <;> omega)
      by_cases hs : 1 < t.size
      · exact absurd ⟨hs, he⟩ hx
      · rw [← h1.short (by omega) 6 hd (by omega)]; rfl
    · exact h1.dead h0 (by unfold dstep; ((repeat' split) <;> omega))
theorem D4.yes {R : Bool} {q : Nat} {t : ByteArray} (h : D4 R q t) (h0 : t.size = 0) : true = R := by
  obtain ⟨h1, h2, _⟩ := h
  rw [← h1.fin h0]
  rcases h2 with rfl | rfl | rfl <;> rfl
set_option maxHeartbeats 8000000 in
theorem D6.no {R : Bool} {q : Nat} {t : ByteArray} (h : D6 R q t) (h0 : 0 < t.size) (hx : ¬ (48 ≤ ((t[0]'h0).toNat : Int) ∧ ((t[0]'h0).toNat : Int) ≤ 57)) : false = R := by
  obtain ⟨h1, h2, h3, h4⟩ := h
  refine h1.dead h0 ?_
  have h5 : q = 6 → ¬ ((t[0]'h0).toNat : Int) = 43 ∧ ¬ ((t[0]'h0).toNat : Int) = 45 := fun e => h4 e h0
  unfold dstep
  ((repeat' split) <;> omega)
theorem D6.yes {R : Bool} {q : Nat} {t : ByteArray} (h : D6 R q t) (h0 : t.size = 0) : true = R := by
  obtain ⟨h1, h2, h3, h4⟩ := h
  have : q = 8 := by
    rcases Nat.decEq q 8 with h8 | h8
    · have := h3 h8; omega
    · exact h8
  subst this
  rw [← h1.fin h0]; rfl
def Z3 (R : Bool) (t : ByteArray) : Prop := (t.size = 0 → true = R) ∧ (0 < t.size → false = R)
def D1 (R : Bool) (q : Nat) (t : ByteArray) : Prop := RR R q t ∧ q ≤ 1 ∧ 0 < t.size ∧ ∀ h : 0 < t.size, ¬ (q = 0 ∧ ((t[0]'h).toNat : Int) = 45)
set_option maxRecDepth 100000 in
set_option maxHeartbeats 8000000 in
theorem isValidNumber (s : ByteArray) (w : World) (hs : s.size ≤ 2147483647) :
    Calls Try.prog 42 #[.string s] w fun e w' => e = .returned (.bool (drun 0 s.data.toList)) ∧ w = w' := by
  have h0 : Hid (RR (drun 0 s.data.toList) 0 s) := rfl
  generalize drun 0 s.data.toList = R at h0 ⊢
  by_cases hz : 0 < s.size
  · have he := size_pos_ne s hz
    go_enter Try.func42, Try.ntmps42
    go_upto_if 7 with fail
    go_cut [0] (fun t wx => w = wx ∧ ∃ (t' : ByteArray) (q : Nat), t = .string t' ∧ t'.size ≤ s.size ∧ Hid (D1 R q t'))
    case first =>
      by_cases hm : ((s[0]'hz).toNat : Int) = 45
      · have H1 : Hid (RR R 1 (s.extract 1 s.size)) := h0.out.step hz 1 (by rw [hm]; rfl) (by omega)
        by_cases h1 : 1 < s.size
        · have hxs : 0 < (s.extract 1 s.size).size := by simp; omega
          have he1 := size_pos_ne _ hxs
          have H : Hid (D1 R 1 (s.extract 1 s.size)) := ⟨H1.out, by omega, hxs, fun _ q => by omega⟩
          have hle : (s.extract 1 s.size).size ≤ s.size := by simp
          go_wp2
          go_meet
          exact ⟨rfl, _, 1, rfl, hle, H⟩
        · have hxs : (s.extract 1 s.size).size = 0 := by simp; omega
          have he1 := size_zero_eq _ hxs
          have hR := H1.out.fin hxs
          have HR := Lib.hid hR
          have hz1 : 1 ≤ s.size := by omega
          clear hR hxs h1
          go_wp2
          go_ret
          exact ⟨ret_bool (by rw [← HR.out]; rfl), rfl⟩
      · have hm' : (((s[0]'hz).toNat : Int) == 45) = false := by simpa using hm
        have H : Hid (D1 R 0 s) := ⟨h0.out, by omega, hz, fun _ q => hm q.2⟩
        clear hm
        go_wp2
        go_meet
        exact ⟨rfl, s, 0, rfl, Nat.le_refl _, H⟩
    case rest =>
      obtain ⟨rfl, t, q, rfl, hts, H⟩ := hcut
      have ht0 := H.out.2.2.1
      go_step
      go_step
      go_cut [0] (fun x wx => w = wx ∧ ∃ (t' : ByteArray) (q' : Nat), x = .string t' ∧ t'.size ≤ s.size ∧ Hid (D2 R q' t'))
      case first =>
        have hq1 := H.out.2.1
        have hns := H.out.2.2.2 ht0
        by_cases h48 : ((t[0]'ht0).toNat : Int) = 48
        · have HS : Hid (D2 R 2 (t.extract 1 t.size)) := ⟨H.out.1.step ht0 2 (by unfold dstep; ((repeat' split) <;> omega)) (by omega), .inl rfl, fun _ e => by omega⟩
          have hle : (t.extract 1 t.size).size ≤ s.size := by simp; omega
          have ht1 : 1 ≤ t.size := ht0
          have e48 : (((t[0]'ht0).toNat : Int) == 48) = true := by rw [h48]; rfl
          clear h48 hq1 hns
          go_wp2
          go_meet
          exact ⟨rfl, _, 2, rfl, hle, HS⟩
        · have e48 : (((t[0]'ht0).toNat : Int) == 48) = false := by simpa using h48
          by_cases hd1 : 49 ≤ ((t[0]'ht0).toNat : Int)
          · by_cases hd2 : ((t[0]'ht0).toNat : Int) ≤ 57
            · have HS : Hid (DQ 3 R 3 (t.extract 1 t.size)) := ⟨H.out.1.step ht0 3 (by unfold dstep; ((repeat' split) <;> omega)) (by omega), rfl⟩
              have hr0s : (t.extract 1 t.size).size ≤ s.size := by simp; omega
              have ht1 : 1 ≤ t.size := ht0
              clear h48 hq1 hns
              go_wp2
              obtain ⟨r0, hr0e⟩ : ∃ r0, r0 = t.extract 1 t.size := ⟨_, rfl⟩
              rw [← hr0e] at HS hr0s ⊢
              clear hr0e
              go_loopg [0] r0.size (fun g x wx => w = wx ∧ ∃ (r : ByteArray) (Q : Nat), x = .string r ∧ g = r.size ∧ r.size ≤ s.size ∧ Hid (DQ 3 R Q r))
              case atStart => exact ⟨rfl, r0, _, rfl, rfl, hr0s, HS⟩
              case round =>
                obtain ⟨rfl, r, Q, rfl, rfl, hrs, HL⟩ := hrel
                by_cases hr0 : 0 < r.size
                · by_cases hd1 : 48 ≤ ((r[0]'hr0).toNat : Int)
                  · by_cases hd2 : ((r[0]'hr0).toNat : Int) ≤ 57
                    · have HN := Lib.hid (show DQ 3 R 3 (r.extract 1 r.size) from ⟨by have h := HL.out.1; rw [HL.out.2] at h; exact h.step hr0 3 (by unfold dstep; ((repeat' split) <;> omega)) (by omega), rfl⟩)
                      have hr1 : 1 ≤ r.size := hr0
                      go_wp2
                      go_roundg (r.size - 1)
                      case measure => omega
                      case rel => exact ⟨rfl, _, _, rfl, by simp, by simp; omega, HN⟩
                    · have HE : Hid (D2 R 3 r) := ⟨by have h := HL.out.1; rw [HL.out.2] at h; exact h, .inr rfl, fun _ _ z => hd2 z.2⟩
                      go_wp2
                      go_meet
                      exact ⟨rfl, r, 3, rfl, hrs, HE⟩
                  · have HE : Hid (D2 R 3 r) := ⟨by have h := HL.out.1; rw [HL.out.2] at h; exact h, .inr rfl, fun _ _ z => hd1 z.1⟩
                    go_wp2
                    go_meet
                    exact ⟨rfl, r, 3, rfl, hrs, HE⟩
                · have HE : Hid (D2 R 3 r) := ⟨by have h := HL.out.1; rw [HL.out.2] at h; exact h, .inr rfl, fun z => absurd z hr0⟩
                  go_wp2
                  go_meet
                  exact ⟨rfl, r, 3, rfl, hrs, HE⟩
            · have HR := Lib.hid (H.out.1.dead ht0 (by unfold dstep; ((repeat' split) <;> omega)))
              clear h48 hq1 hns
              go_wp2
              go_ret
              exact ⟨ret_bool HR.out, rfl⟩
          · have HR := Lib.hid (H.out.1.dead ht0 (by unfold dstep; ((repeat' split) <;> omega)))
            clear h48 hq1 hns
            go_wp2
            go_ret
            exact ⟨ret_bool HR.out, rfl⟩
      case rest =>
      clear H hts ht0
      obtain ⟨rfl, t1, q1, rfl, hts1, H1⟩ := hcut
      go_step
      go_step
      go_cut [0] (fun x wx => w = wx ∧ ∃ (t' : ByteArray) (q' : Nat), x = .string t' ∧ t'.size ≤ s.size ∧ Hid (D4 R q' t'))
      case first =>
        have hq1 := H1.out.2.1
        by_cases hl : 1 < t1.size
        · have hl0 : 0 < t1.size := by omega
          have hl2 : (2 : Int) ≤ (t1.size : Int) := by omega
          by_cases h46 : ((t1[0]'hl0).toNat : Int) = 46
          · by_cases hd1 : 48 ≤ ((t1[1]'hl).toNat : Int)
            · by_cases hd2 : ((t1[1]'hl).toNat : Int) ≤ 57
              · have HS : Hid (DQ 5 R 5 (t1.extract 2 t1.size)) := ⟨H1.out.1.step2 hl 4 5 (by unfold dstep; ((repeat' split) <;> omega)) (by omega) (by unfold dstep; ((repeat' split) <;> omega)) (by omega), rfl⟩
                have hr0s : (t1.extract 2 t1.size).size ≤ s.size := by simp; omega
                have ht2 : 2 ≤ t1.size := hl
                have e46 : (((t1[0]'hl0).toNat : Int) == 46) = true := by rw [h46]; rfl
                clear hq1
                go_wp2
                obtain ⟨r0, hr0e⟩ : ∃ r0, r0 = t1.extract 2 t1.size := ⟨_, rfl⟩
                rw [← hr0e] at HS hr0s ⊢
                clear hr0e
                go_loopg [0] r0.size (fun g x wx => w = wx ∧ ∃ (r : ByteArray) (Q : Nat), x = .string r ∧ g = r.size ∧ r.size ≤ s.size ∧ Hid (DQ 5 R Q r))
                case atStart => exact ⟨rfl, r0, _, rfl, rfl, hr0s, HS⟩
                case round =>
                  obtain ⟨rfl, r, Q, rfl, rfl, hrs, HL⟩ := hrel
                  by_cases hr0 : 0 < r.size
                  · by_cases hd1 : 48 ≤ ((r[0]'hr0).toNat : Int)
                    · by_cases hd2 : ((r[0]'hr0).toNat : Int) ≤ 57
                      · have HN := Lib.hid (show DQ 5 R 5 (r.extract 1 r.size) from ⟨by have h := HL.out.1; rw [HL.out.2] at h; exact h.step hr0 5 (by unfold dstep; ((repeat' split) <;> omega)) (by omega), rfl⟩)
                        have hr1 : 1 ≤ r.size := hr0
                        go_wp2
                        go_roundg (r.size - 1)
                        case measure => omega
                        case rel => exact ⟨rfl, _, _, rfl, by simp, by simp; omega, HN⟩
                      · have HE : Hid (D4 R 5 r) := ⟨by have h := HL.out.1; rw [HL.out.2] at h; exact h, .inr (.inr rfl), fun _ _ z => hd2 z.2, fun z => absurd rfl z⟩
                        go_wp2
                        go_meet
                        exact ⟨rfl, r, 5, rfl, hrs, HE⟩
                    · have HE : Hid (D4 R 5 r) := ⟨by have h := HL.out.1; rw [HL.out.2] at h; exact h, .inr (.inr rfl), fun _ _ z => hd1 z.1, fun z => absurd rfl z⟩
                      go_wp2
                      go_meet
                      exact ⟨rfl, r, 5, rfl, hrs, HE⟩
                  · have HE : Hid (D4 R 5 r) := ⟨by have h := HL.out.1; rw [HL.out.2] at h; exact h, .inr (.inr rfl), fun z => absurd z hr0, fun z => absurd rfl z⟩
                    go_wp2
                    go_meet
                    exact ⟨rfl, r, 5, rfl, hrs, HE⟩
              · have HE : Hid (D4 R q1 t1) := ⟨H1.out.1, by omega, fun h z => H1.out.2.2 h (by omega), fun _ ⟨_, _, _, z⟩ => hd2 z⟩
                have e46 : (((t1[0]'hl0).toNat : Int) == 46) = true := by rw [h46]; rfl
                clear h46
                clear hq1
                go_wp2
                all_goals
                  go_meet
                  exact ⟨rfl, t1, q1, rfl, hts1, HE⟩
            · have HE : Hid (D4 R q1 t1) := ⟨H1.out.1, by omega, fun h z => H1.out.2.2 h (by omega), fun _ ⟨_, _, z, _⟩ => hd1 z⟩
              have e46 : (((t1[0]'hl0).toNat : Int) == 46) = true := by rw [h46]; rfl
              clear h46
              clear hq1
              go_wp2
              all_goals
                go_meet
                exact ⟨rfl, t1, q1, rfl, hts1, HE⟩
          · have HE : Hid (D4 R q1 t1) := ⟨H1.out.1, by omega, fun h z => H1.out.2.2 h (by omega), fun _ ⟨_, z, _⟩ => h46 z⟩
            have e46 : (((t1[0]'hl0).toNat : Int) == 46) = false := by simpa using h46
            clear h46
            clear hq1
            go_wp2
            all_goals
              go_meet
              exact ⟨rfl, t1, q1, rfl, hts1, HE⟩
        · have HE : Hid (D4 R q1 t1) := ⟨H1.out.1, by omega, fun h z => H1.out.2.2 h (by omega), fun _ ⟨z, _⟩ => hl z⟩
          have hl2 : (t1.size : Int) < 2 := by omega
          clear hq1
          go_wp2
          all_goals
            go_meet
            exact ⟨rfl, t1, q1, rfl, hts1, HE⟩
      case rest =>
      clear H1 hts1
      obtain ⟨rfl, t2, q2, rfl, hts2, H2⟩ := hcut
      go_step
      go_step
      go_cut [0] (fun x wx => w = wx ∧ ∃ (t' : ByteArray) (q' : Nat), x = .string t' ∧ t'.size ≤ s.size ∧ Hid (Z3 R t'))
      case first =>
        have hq2 := H2.out.2.1
        by_cases hl : 1 < t2.size
        · have hl0 : 0 < t2.size := by omega
          have hl2 : (2 : Int) ≤ (t2.size : Int) := by omega
          by_cases he : ((t2[0]'hl0).toNat : Int) = 101 ∨ ((t2[0]'hl0).toNat : Int) = 69
          · obtain ⟨u, hu⟩ : ∃ u, u = t2.extract 1 t2.size := ⟨_, rfl⟩
            have HU : Hid (RR R 6 u) := by rw [hu]; exact H2.out.1.step hl0 6 (by unfold dstep; ((repeat' split) <;> omega)) (by omega)
            have hu0 : 0 < u.size := by rw [hu, ByteArray.size_extract]; omega
            have hus : u.size ≤ s.size := by rw [hu, ByteArray.size_extract]; omega
            have HUE := Lib.hid hu
            clear hu hq2
            rcases he with he | he
            · have e1 : (((t2[0]'hl0).toNat : Int) == 101) = true := by rw [he]; rfl
              clear he
              go_upto_region 20 with fail
              rw [← HUE.out]
              by_cases hs43 : ((u[0]'hu0).toNat : Int) = 43
              · have HV : Hid (RR R 7 (u.extract 1 u.size)) := HU.out.step hu0 7 (by rw [hs43]; rfl) (by omega)
                have s0 : (((u[0]'hu0).toNat : Int) == 43) = true := by rw [hs43]; rfl
                clear hs43
                by_cases hv : 0 < (u.extract 1 u.size).size
                · have hve := size_pos_ne _ hv
                  have HS : Hid (D6 R 7 (u.extract 1 u.size)) := ⟨HV.out, .inr (.inl rfl), fun _ => hv, fun z => by omega⟩
                  have hr0s : (u.extract 1 u.size).size ≤ s.size := by rw [ByteArray.size_extract]; omega
                  obtain ⟨r0, hr0e⟩ : ∃ r0, r0 = u.extract 1 u.size := ⟨_, rfl⟩
                  have HR0 := Lib.hid hr0e
                  clear hv
                  go_wp2
                  rw [← HR0.out]
                  rw [← HR0.out] at HS hr0s
                  clear HR0 hr0e HV
                  go_loopg [0] r0.size (fun g x wx => w = wx ∧ ∃ (r : ByteArray) (Q : Nat), x = .string r ∧ g = r.size ∧ r.size ≤ s.size ∧ Hid (D6 R Q r))
                  case atStart => exact ⟨rfl, r0, _, rfl, rfl, hr0s, HS⟩
                  case round =>
                    obtain ⟨rfl, r, Q, rfl, rfl, hrs, HL⟩ := hrel
                    by_cases hr0 : 0 < r.size
                    · by_cases hd1 : 48 ≤ ((r[0]'hr0).toNat : Int)
                      · by_cases hd2 : ((r[0]'hr0).toNat : Int) ≤ 57
                        · have HN := Lib.hid (show D6 R 8 (r.extract 1 r.size) from ⟨HL.out.1.step hr0 8 (by have h2 := HL.out.2.1; unfold dstep; ((repeat' split) <;> omega)) (by omega), .inr (.inr rfl), fun z => absurd rfl z, fun z => by omega⟩)
                          have hr1 : 1 ≤ r.size := hr0
                          go_wp2
                          go_roundg (r.size - 1)
                          case measure => omega
                          case rel => exact ⟨rfl, _, _, rfl, by simp, by simp; omega, HN⟩
                        · have HE : Hid (Z3 R r) := ⟨fun z => by omega, fun z => HL.out.no z (fun y => hd2 y.2)⟩
                          go_wp2
                          go_meet
                          exact ⟨rfl, r, 8, rfl, hrs, HE⟩
                      · have HE : Hid (Z3 R r) := ⟨fun z => by omega, fun z => HL.out.no z (fun y => hd1 y.1)⟩
                        go_wp2
                        go_meet
                        exact ⟨rfl, r, 8, rfl, hrs, HE⟩
                    · have HE : Hid (Z3 R r) := ⟨fun z => HL.out.yes (by omega), fun z => absurd z hr0⟩
                      go_wp2
                      go_meet
                      exact ⟨rfl, r, 8, rfl, hrs, HE⟩
                · have hv0 : (u.extract 1 u.size).size = 0 := by omega
                  have hve := size_zero_eq _ hv0
                  have HR := Lib.hid (HV.out.fin hv0)
                  clear hv hv0
                  go_wp2
                  go_ret
                  exact ⟨ret_bool (by rw [← HR.out]; rfl), rfl⟩
              · by_cases hs45 : ((u[0]'hu0).toNat : Int) = 45
                · have HV : Hid (RR R 7 (u.extract 1 u.size)) := HU.out.step hu0 7 (by rw [hs45]; rfl) (by omega)
                  have s0 : (((u[0]'hu0).toNat : Int) == 43) = false := by rw [hs45]; rfl
                  have s1 : (((u[0]'hu0).toNat : Int) == 45) = true := by rw [hs45]; rfl
                  clear hs45
                  by_cases hv : 0 < (u.extract 1 u.size).size
                  · have hve := size_pos_ne _ hv
                    have HS : Hid (D6 R 7 (u.extract 1 u.size)) := ⟨HV.out, .inr (.inl rfl), fun _ => hv, fun z => by omega⟩
                    have hr0s : (u.extract 1 u.size).size ≤ s.size := by rw [ByteArray.size_extract]; omega
                    obtain ⟨r0, hr0e⟩ : ∃ r0, r0 = u.extract 1 u.size := ⟨_, rfl⟩
                    have HR0 := Lib.hid hr0e
                    clear hv
                    go_wp2
                    rw [← HR0.out]
                    rw [← HR0.out] at HS hr0s
                    clear HR0 hr0e HV
                    go_loopg [0] r0.size (fun g x wx => w = wx ∧ ∃ (r : ByteArray) (Q : Nat), x = .string r ∧ g = r.size ∧ r.size ≤ s.size ∧ Hid (D6 R Q r))
                    case atStart => exact ⟨rfl, r0, _, rfl, rfl, hr0s, HS⟩
                    case round =>
                      obtain ⟨rfl, r, Q, rfl, rfl, hrs, HL⟩ := hrel
                      by_cases hr0 : 0 < r.size
                      · by_cases hd1 : 48 ≤ ((r[0]'hr0).toNat : Int)
                        · by_cases hd2 : ((r[0]'hr0).toNat : Int) ≤ 57
                          · have HN := Lib.hid (show D6 R 8 (r.extract 1 r.size) from ⟨HL.out.1.step hr0 8 (by have h2 := HL.out.2.1; unfold dstep; ((repeat' split) <;> omega)) (by omega), .inr (.inr rfl), fun z => absurd rfl z, fun z => by omega⟩)
                            have hr1 : 1 ≤ r.size := hr0
                            go_wp2
                            go_roundg (r.size - 1)
                            case measure => omega
                            case rel => exact ⟨rfl, _, _, rfl, by simp, by simp; omega, HN⟩
                          · have HE : Hid (Z3 R r) := ⟨fun z => by omega, fun z => HL.out.no z (fun y => hd2 y.2)⟩
                            go_wp2
                            go_meet
                            exact ⟨rfl, r, 8, rfl, hrs, HE⟩
                        · have HE : Hid (Z3 R r) := ⟨fun z => by omega, fun z => HL.out.no z (fun y => hd1 y.1)⟩
                          go_wp2
                          go_meet
                          exact ⟨rfl, r, 8, rfl, hrs, HE⟩
                      · have HE : Hid (Z3 R r) := ⟨fun z => HL.out.yes (by omega), fun z => absurd z hr0⟩
                        go_wp2
                        go_meet
                        exact ⟨rfl, r, 8, rfl, hrs, HE⟩
                  · have hv0 : (u.extract 1 u.size).size = 0 := by omega
                    have hve := size_zero_eq _ hv0
                    have HR := Lib.hid (HV.out.fin hv0)
                    clear hv hv0
                    go_wp2
                    go_ret
                    exact ⟨ret_bool (by rw [← HR.out]; rfl), rfl⟩
                · have s0 : (((u[0]'hu0).toNat : Int) == 43) = false := by simpa using hs43
                  have s1 : (((u[0]'hu0).toNat : Int) == 45) = false := by simpa using hs45
                  have HS : Hid (D6 R 6 u) := ⟨HU.out, .inl rfl, fun _ => hu0, fun _ _ => ⟨hs43, hs45⟩⟩
                  clear hs43 hs45
                  go_wp2
                  obtain ⟨r0, rfl⟩ : ∃ r0, r0 = u := ⟨_, rfl⟩
                  go_loopg [0] r0.size (fun g x wx => w = wx ∧ ∃ (r : ByteArray) (Q : Nat), x = .string r ∧ g = r.size ∧ r.size ≤ s.size ∧ Hid (D6 R Q r))
                  case atStart => exact ⟨rfl, r0, _, rfl, rfl, hus, HS⟩
                  case round =>
                    obtain ⟨rfl, r, Q, rfl, rfl, hrs, HL⟩ := hrel
                    by_cases hr0 : 0 < r.size
                    · by_cases hd1 : 48 ≤ ((r[0]'hr0).toNat : Int)
                      · by_cases hd2 : ((r[0]'hr0).toNat : Int) ≤ 57
                        · have HN := Lib.hid (show D6 R 8 (r.extract 1 r.size) from ⟨HL.out.1.step hr0 8 (by have h2 := HL.out.2.1; unfold dstep; ((repeat' split) <;> omega)) (by omega), .inr (.inr rfl), fun z => absurd rfl z, fun z => by omega⟩)
                          have hr1 : 1 ≤ r.size := hr0
                          go_wp2
                          go_roundg (r.size - 1)
                          case measure => omega
                          case rel => exact ⟨rfl, _, _, rfl, by simp, by simp; omega, HN⟩
                        · have HE : Hid (Z3 R r) := ⟨fun z => by omega, fun z => HL.out.no z (fun y => hd2 y.2)⟩
                          go_wp2
                          go_meet
                          exact ⟨rfl, r, 8, rfl, hrs, HE⟩
                      · have HE : Hid (Z3 R r) := ⟨fun z => by omega, fun z => HL.out.no z (fun y => hd1 y.1)⟩
                        go_wp2
                        go_meet
                        exact ⟨rfl, r, 8, rfl, hrs, HE⟩
                    · have HE : Hid (Z3 R r) := ⟨fun z => HL.out.yes (by omega), fun z => absurd z hr0⟩
                      go_wp2
                      go_meet
                      exact ⟨rfl, r, 8, rfl, hrs, HE⟩
            · have e1 : (((t2[0]'hl0).toNat : Int) == 101) = false := by rw [he]; rfl
              have e2 : (((t2[0]'hl0).toNat : Int) == 69) = true := by rw [he]; rfl
              clear he
              go_upto_region 20 with fail
              rw [← HUE.out]
              by_cases hs43 : ((u[0]'hu0).toNat : Int) = 43
              · have HV : Hid (RR R 7 (u.extract 1 u.size)) := HU.out.step hu0 7 (by rw [hs43]; rfl) (by omega)
                have s0 : (((u[0]'hu0).toNat : Int) == 43) = true := by rw [hs43]; rfl
                clear hs43
                by_cases hv : 0 < (u.extract 1 u.size).size
                · have hve := size_pos_ne _ hv
                  have HS : Hid (D6 R 7 (u.extract 1 u.size)) := ⟨HV.out, .inr (.inl rfl), fun _ => hv, fun z => by omega⟩
                  have hr0s : (u.extract 1 u.size).size ≤ s.size := by rw [ByteArray.size_extract]; omega
                  obtain ⟨r0, hr0e⟩ : ∃ r0, r0 = u.extract 1 u.size := ⟨_, rfl⟩
                  have HR0 := Lib.hid hr0e
                  clear hv
                  go_wp2
                  rw [← HR0.out]
                  rw [← HR0.out] at HS hr0s
                  clear HR0 hr0e HV
                  go_loopg [0] r0.size (fun g x wx => w = wx ∧ ∃ (r : ByteArray) (Q : Nat), x = .string r ∧ g = r.size ∧ r.size ≤ s.size ∧ Hid (D6 R Q r))
                  case atStart => exact ⟨rfl, r0, _, rfl, rfl, hr0s, HS⟩
                  case round =>
                    obtain ⟨rfl, r, Q, rfl, rfl, hrs, HL⟩ := hrel
                    by_cases hr0 : 0 < r.size
                    · by_cases hd1 : 48 ≤ ((r[0]'hr0).toNat : Int)
                      · by_cases hd2 : ((r[0]'hr0).toNat : Int) ≤ 57
                        · have HN := Lib.hid (show D6 R 8 (r.extract 1 r.size) from ⟨HL.out.1.step hr0 8 (by have h2 := HL.out.2.1; unfold dstep; ((repeat' split) <;> omega)) (by omega), .inr (.inr rfl), fun z => absurd rfl z, fun z => by omega⟩)
                          have hr1 : 1 ≤ r.size := hr0
                          go_wp2
                          go_roundg (r.size - 1)
                          case measure => omega
                          case rel => exact ⟨rfl, _, _, rfl, by simp, by simp; omega, HN⟩
                        · have HE : Hid (Z3 R r) := ⟨fun z => by omega, fun z => HL.out.no z (fun y => hd2 y.2)⟩
                          go_wp2
                          go_meet
                          exact ⟨rfl, r, 8, rfl, hrs, HE⟩
                      · have HE : Hid (Z3 R r) := ⟨fun z => by omega, fun z => HL.out.no z (fun y => hd1 y.1)⟩
                        go_wp2
                        go_meet
                        exact ⟨rfl, r, 8, rfl, hrs, HE⟩
                    · have HE : Hid (Z3 R r) := ⟨fun z => HL.out.yes (by omega), fun z => absurd z hr0⟩
                      go_wp2
                      go_meet
                      exact ⟨rfl, r, 8, rfl, hrs, HE⟩
                · have hv0 : (u.extract 1 u.size).size = 0 := by omega
                  have hve := size_zero_eq _ hv0
                  have HR := Lib.hid (HV.out.fin hv0)
                  clear hv hv0
                  go_wp2
                  go_ret
                  exact ⟨ret_bool (by rw [← HR.out]; rfl), rfl⟩
              · by_cases hs45 : ((u[0]'hu0).toNat : Int) = 45
                · have HV : Hid (RR R 7 (u.extract 1 u.size)) := HU.out.step hu0 7 (by rw [hs45]; rfl) (by omega)
                  have s0 : (((u[0]'hu0).toNat : Int) == 43) = false := by rw [hs45]; rfl
                  have s1 : (((u[0]'hu0).toNat : Int) == 45) = true := by rw [hs45]; rfl
                  clear hs45
                  by_cases hv : 0 < (u.extract 1 u.size).size
                  · have hve := size_pos_ne _ hv
                    have HS : Hid (D6 R 7 (u.extract 1 u.size)) := ⟨HV.out, .inr (.inl rfl), fun _ => hv, fun z => by omega⟩
                    have hr0s : (u.extract 1 u.size).size ≤ s.size := by rw [ByteArray.size_extract]; omega
                    obtain ⟨r0, hr0e⟩ : ∃ r0, r0 = u.extract 1 u.size := ⟨_, rfl⟩
                    have HR0 := Lib.hid hr0e
                    clear hv
                    go_wp2
                    rw [← HR0.out]
                    rw [← HR0.out] at HS hr0s
                    clear HR0 hr0e HV
                    go_loopg [0] r0.size (fun g x wx => w = wx ∧ ∃ (r : ByteArray) (Q : Nat), x = .string r ∧ g = r.size ∧ r.size ≤ s.size ∧ Hid (D6 R Q r))
                    case atStart => exact ⟨rfl, r0, _, rfl, rfl, hr0s, HS⟩
                    case round =>
                      obtain ⟨rfl, r, Q, rfl, rfl, hrs, HL⟩ := hrel
                      by_cases hr0 : 0 < r.size
                      · by_cases hd1 : 48 ≤ ((r[0]'hr0).toNat : Int)
                        · by_cases hd2 : ((r[0]'hr0).toNat : Int) ≤ 57
                          · have HN := Lib.hid (show D6 R 8 (r.extract 1 r.size) from ⟨HL.out.1.step hr0 8 (by have h2 := HL.out.2.1; unfold dstep; ((repeat' split) <;> omega)) (by omega), .inr (.inr rfl), fun z => absurd rfl z, fun z => by omega⟩)
                            have hr1 : 1 ≤ r.size := hr0
                            go_wp2
                            go_roundg (r.size - 1)
                            case measure => omega
                            case rel => exact ⟨rfl, _, _, rfl, by simp, by simp; omega, HN⟩
                          · have HE : Hid (Z3 R r) := ⟨fun z => by omega, fun z => HL.out.no z (fun y => hd2 y.2)⟩
                            go_wp2
                            go_meet
                            exact ⟨rfl, r, 8, rfl, hrs, HE⟩
                        · have HE : Hid (Z3 R r) := ⟨fun z => by omega, fun z => HL.out.no z (fun y => hd1 y.1)⟩
                          go_wp2
                          go_meet
                          exact ⟨rfl, r, 8, rfl, hrs, HE⟩
                      · have HE : Hid (Z3 R r) := ⟨fun z => HL.out.yes (by omega), fun z => absurd z hr0⟩
                        go_wp2
                        go_meet
                        exact ⟨rfl, r, 8, rfl, hrs, HE⟩
                  · have hv0 : (u.extract 1 u.size).size = 0 := by omega
                    have hve := size_zero_eq _ hv0
                    have HR := Lib.hid (HV.out.fin hv0)
                    clear hv hv0
                    go_wp2
                    go_ret
                    exact ⟨ret_bool (by rw [← HR.out]; rfl), rfl⟩
                · have s0 : (((u[0]'hu0).toNat : Int) == 43) = false := by simpa using hs43
                  have s1 : (((u[0]'hu0).toNat : Int) == 45) = false := by simpa using hs45
                  have HS : Hid (D6 R 6 u) := ⟨HU.out, .inl rfl, fun _ => hu0, fun _ _ => ⟨hs43, hs45⟩⟩
                  clear hs43 hs45
                  go_wp2
                  obtain ⟨r0, rfl⟩ : ∃ r0, r0 = u := ⟨_, rfl⟩
                  go_loopg [0] r0.size (fun g x wx => w = wx ∧ ∃ (r : ByteArray) (Q : Nat), x = .string r ∧ g = r.size ∧ r.size ≤ s.size ∧ Hid (D6 R Q r))
                  case atStart => exact ⟨rfl, r0, _, rfl, rfl, hus, HS⟩
                  case round =>
                    obtain ⟨rfl, r, Q, rfl, rfl, hrs, HL⟩ := hrel
                    by_cases hr0 : 0 < r.size
                    · by_cases hd1 : 48 ≤ ((r[0]'hr0).toNat : Int)
                      · by_cases hd2 : ((r[0]'hr0).toNat : Int) ≤ 57
                        · have HN := Lib.hid (show D6 R 8 (r.extract 1 r.size) from ⟨HL.out.1.step hr0 8 (by have h2 := HL.out.2.1; unfold dstep; ((repeat' split) <;> omega)) (by omega), .inr (.inr rfl), fun z => absurd rfl z, fun z => by omega⟩)
                          have hr1 : 1 ≤ r.size := hr0
                          go_wp2
                          go_roundg (r.size - 1)
                          case measure => omega
                          case rel => exact ⟨rfl, _, _, rfl, by simp, by simp; omega, HN⟩
                        · have HE : Hid (Z3 R r) := ⟨fun z => by omega, fun z => HL.out.no z (fun y => hd2 y.2)⟩
                          go_wp2
                          go_meet
                          exact ⟨rfl, r, 8, rfl, hrs, HE⟩
                      · have HE : Hid (Z3 R r) := ⟨fun z => by omega, fun z => HL.out.no z (fun y => hd1 y.1)⟩
                        go_wp2
                        go_meet
                        exact ⟨rfl, r, 8, rfl, hrs, HE⟩
                    · have HE : Hid (Z3 R r) := ⟨fun z => HL.out.yes (by omega), fun z => absurd z hr0⟩
                      go_wp2
                      go_meet
                      exact ⟨rfl, r, 8, rfl, hrs, HE⟩
          · have HE : Hid (Z3 R t2) := ⟨fun z => H2.out.yes z, fun z => H2.out.no z (fun ⟨_, y⟩ => he y)⟩
            have e1 : (((t2[0]'hl0).toNat : Int) == 101) = false := by simp; omega
            have e2 : (((t2[0]'hl0).toNat : Int) == 69) = false := by simp; omega
            clear hq2 he
            go_wp2
            all_goals
              go_meet
              exact ⟨rfl, t2, q2, rfl, hts2, HE⟩
        · have HE : Hid (Z3 R t2) := ⟨fun z => H2.out.yes z, fun z => H2.out.no z (fun ⟨y, _⟩ => hl y)⟩
          have hl2 : (t2.size : Int) < 2 := by omega
          clear hq2
          go_wp2
          all_goals
            go_meet
            exact ⟨rfl, t2, q2, rfl, hts2, HE⟩
      case rest =>
      clear H2 hts2
      obtain ⟨rfl, t3, q3, rfl, hts3, H3⟩ := hcut
      by_cases hz3 : 0 < t3.size
      · have he3 := size_pos_ne t3 hz3
        have HR := Lib.hid (H3.out.2 hz3)
        go_wp2
        go_ret
        exact ⟨ret_bool (by rw [← HR.out]), rfl⟩
      · have hz4 : t3.size = 0 := by omega
        have HR := Lib.hid (H3.out.1 hz4)
        have he3 := size_zero_eq t3 hz4
        subst he3
        clear hz3 hz4
        go_wp2
        go_ret
        exact ⟨ret_bool (by rw [← HR.out]), rfl⟩
  · have hz0 : s.size = 0 := by omega
    have hR := h0.out.fin hz0
    have HR := Lib.hid hR
    have hse := size_zero_eq s hz0
    subst hse
    clear hR hz hz0
    go_enter Try.func42, Try.ntmps42
    go_wp2
    go_ret
    exact ⟨ret_bool (by rw [← HR.out]; rfl), rfl⟩
end Go.Proofs.Ytegfdgmbhnfeeaa
