/- The statements' safe8 at a text without the five characters, walked. -/
import Derived.Test.YtklncgmfbflooaaDoorSafeP
import Derived.Test.YtklncgmfbflooaaDoorProg
import Derived.WalkLawsBesides
import Derived.WalkSpells
import Derived.BigQuiet
import Derived.Deep.QuietTactic
import Derived.Lib.Hide
import Derived.Lib.Strings
namespace Go.Proofs.YtklncgmfbflooaaDoor
open Go.RowKit
def setH : ByteArray := ⟨#[60, 62, 38]⟩
set_option maxRecDepth 100000 in
set_option maxHeartbeats 1000000 in
theorem every8 (s : ByteArray) (hs : s.size = 1) (c : Nat) (hc : ∀ h, (((s[0]'h).toNat : Nat) : Int) = (c : Int)) (hh : htmlC c = false) (w : World) :
    Calls Tryd.prog 30 #[.string s, .string ⟨#[60, 62, 38]⟩] w fun e w' => e = .returned (.bool false) ∧ ∃ k, w' = w.drewN k := by
  have n1 : ((c : Int) == 60) = false := by unfold htmlC at hh; simp at hh ⊢; omega
  have n2 : ((c : Int) == 62) = false := by unfold htmlC at hh; simp at hh ⊢; omega
  have n3 : ((c : Int) == 38) = false := by unfold htmlC at hh; simp at hh ⊢; omega
  have i0 : ∀ h, ((((⟨#[60, 62, 38]⟩ : ByteArray)[0]'h).toNat : Nat) : Int) = 60 := fun _ => rfl
  have i1 : ∀ h, ((((⟨#[60, 62, 38]⟩ : ByteArray)[1]'h).toNat : Nat) : Int) = 62 := fun _ => rfl
  have i2 : ∀ h, ((((⟨#[60, 62, 38]⟩ : ByteArray)[2]'h).toNat : Nat) : Int) = 38 := fun _ => rfl
  have hz : ((⟨#[60, 62, 38]⟩ : ByteArray).size : Int) = 3 := rfl
  have hs' : (s.size : Int) = 1 := by omega
  clear hh
  go_enter Tryd.func30, Tryd.ntmps30
  go_wp2
  refine wp_loop_rounds 1 ?_
  rw [rounds_succ]
  go_wp2
  refine wp_loop_rounds 4 ?_
  rw [rounds_succ]
  go_wp2
  go_quiet (fail)
  go_wp2
  rw [rounds_succ]
  go_wp2
  go_quiet (fail)
  go_wp2
  rw [rounds_succ]
  go_wp2
  go_quiet (fail)
  go_wp2
  rw [rounds_succ]
  go_wp2
  go_ret
  exact ⟨rfl, _, rfl⟩
set_option maxRecDepth 100000 in
set_option maxHeartbeats 2000000 in
theorem safe8 (s : ByteArray) (hs : s.size ≤ 140737488355328) (hsafe : safeL s.data.toList = true) (w : World) :
    Calls Tryd.prog 14 #[.string s] w fun e w' => e = .returned (.bool true) ∧ ∃ k, w' = w.drewN k := by
  have HE : Hid (∀ k, k < s.size → ∀ W, Calls Tryd.prog 30 #[.string (s.extract k (k + 1)), .string ⟨#[60, 62, 38]⟩] W fun e w' => e = .returned (.bool false) ∧ ∃ k, w' = W.drewN k) := fun k hk W => by
    have h1 := safe_at _ hsafe k (by rw [size_list]; exact hk)
    unfold headOk at h1
    rw [Bool.and_eq_true, Bool.not_eq_true', natL_drop, Nat.add_zero] at h1
    refine every8 (s.extract k (k + 1)) (by rw [ByteArray.size_extract]; omega) (natL s.data.toList k) (fun h => ?_) h1.1 W
    rw [at_eq, Lib.extract_data, natL_at]
    have e : natL ((s.data.toList.drop k).take (k + 1 - k)) 0 = natL s.data.toList k := by
      unfold natL
      rw [List.getD_eq_getElem?_getD, List.getD_eq_getElem?_getD, List.getElem?_take, if_pos (by omega), List.getElem?_drop, Nat.add_zero]
    rw [e]
  have HN : Hid (∀ k, k + 2 < s.size → ((s.extract k (k + 3)).toList == [226, 128, 168]) = false ∧ ((s.extract k (k + 3)).toList == [226, 128, 169]) = false) := fun k hk => by
    have h1 := safe_at _ hsafe k (by rw [size_list]; omega)
    unfold headOk at h1
    rw [Bool.and_eq_true, decide_eq_true_eq] at h1
    have hj := h1.2
    have hno : ∀ b : UInt8, b = 168 ∨ b = 169 → ¬ (s.extract k (k + 3)).toList = [226, 128, b] := fun b hb e2 => by
      rw [Lib.toList_data, Lib.extract_data] at e2
      have e3 : ∀ j, j < 3 → natL (s.data.toList.drop k) j = natL ((s.data.toList.drop k).take (k + 3 - k)) j := fun j hj => by
        unfold natL
        rw [List.getD_eq_getElem?_getD, List.getD_eq_getElem?_getD, List.getElem?_take, if_pos (by omega)]
      rw [e2] at e3
      have q0 := e3 0 (by omega)
      have q1 := e3 1 (by omega)
      have q2 := e3 2 (by omega)
      have q0' : natL (s.data.toList.drop k) 0 = 226 := q0
      have q1' : natL (s.data.toList.drop k) 1 = 128 := q1
      have q2' : natL (s.data.toList.drop k) 2 = b.toNat := q2
      unfold jsN at hj
      rcases hb with rfl | rfl
      · rw [if_pos ⟨q0', q1', q2'⟩] at hj; omega
      · rw [if_neg (fun z => by have := z.2.2; rw [q2'] at this; exact absurd this (by decide)), if_pos ⟨q0', q1', q2'⟩] at hj; omega
    exact ⟨beq_eq_false_iff_ne.2 (hno 168 (.inl rfl)), beq_eq_false_iff_ne.2 (hno 169 (.inr rfl))⟩
  obtain ⟨n, hn⟩ : ∃ n, n = s.size := ⟨_, rfl⟩
  have hsn : (s.size : Int) = n := by omega
  have hsn' : s.size = n := hn.symm
  rw [← hn] at hs
  clear hn hsafe
  go_enter Tryd.func14, Tryd.ntmps14
  go_wp2
  go_loopw [6] (fun i wr => ∃ k d : Nat, k ≤ n ∧ i = .int .i64 k ∧ wr = w.drewN d) (fun i _ => n - (intOf i).toNat)
  case atStart => exact ⟨0, 0, Nat.zero_le _, rfl, rfl⟩
  case round =>
    obtain ⟨k, d, hk, rfl, rfl⟩ := hrel
    by_cases hkn : k < n
    · have HEk := Lib.hid (HE.out k (by omega))
      by_cases h2 : k + 2 < n
      · obtain ⟨m1, m2⟩ := HN.out k (by omega)
        go_wp2_with fail
        refine (HEk.out _).mono ?_
        rintro e w' ⟨rfl, q, rfl⟩
        go_wp2
        go_roundw
        case rel => exact ⟨k + 1, _, by omega, by go_num, rfl⟩
        case measure => simp [intOf]; omega
      · have i1 : IntKind.i64.wrap ((k : Int) + 1) = ((k + 1 : Nat) : Int) := by rw [IntKind.wrap_i64]; omega
        go_wp2_with fail
        refine (HEk.out _).mono ?_
        rintro e w' ⟨rfl, q, rfl⟩
        go_wp2
        go_roundw
        case rel => exact ⟨k + 1, _, by omega, by go_num, rfl⟩
        case measure => simp [intOf]; omega
    · go_wp2
      go_ret
      exact ⟨rfl, _, rfl⟩
end Go.Proofs.YtklncgmfbflooaaDoor
