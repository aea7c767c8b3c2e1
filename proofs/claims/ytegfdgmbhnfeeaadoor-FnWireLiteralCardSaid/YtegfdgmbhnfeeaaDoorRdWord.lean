/- The reference reads a word at the beginning of a text, walked. -/
import Derived.Test.YtegfdgmbhnfeeaaDoorRdNeed
import Derived.Deep.LoopGhost
import Derived.Deep.RegionWith
namespace Go.Proofs.YtegfdgmbhnfeeaaDoor
open Go.RowKit
/-- k: where two texts part, or one of them ends. -/
def Parts (l m : List UInt8) (k : Nat) : Prop := k ≤ l.length ∧ k ≤ m.length ∧ (∀ j, j < k → atL l j = atL m j) ∧ (k < l.length → k < m.length → ¬ atL l k = atL m k)
theorem parts : ∀ l m : List UInt8, ∃ k, Parts l m k
  | [], m => ⟨0, Nat.zero_le _, Nat.zero_le _, fun j h => absurd h (Nat.not_lt_zero _), fun h => absurd h (Nat.lt_irrefl _)⟩
  | a :: l, [] => ⟨0, Nat.zero_le _, Nat.zero_le _, fun j h => absurd h (Nat.not_lt_zero _), fun _ h => absurd h (Nat.lt_irrefl _)⟩
  | a :: l, b :: m => by
    obtain ⟨k, h1, h2, h3, h4⟩ := parts l m
    by_cases e : a = b
    · subst e
      refine ⟨k + 1, by simpa using h1, by simpa using h2, fun j hj => ?_, fun x y => ?_⟩
      · cases j with
        | zero => rfl
        | succ j => exact h3 j (by omega)
      · exact h4 (by simpa using x) (by simpa using y)
    · refine ⟨0, Nat.zero_le _, Nat.zero_le _, fun j h => absurd h (Nat.not_lt_zero _), fun _ _ q => e ?_⟩
      have q' : ((a.toNat : Int) = (b.toNat : Int)) := q
      exact UInt8.toNat_inj.1 (by omega)
def WordPost (b : Bool) (R : Nat) (s : ByteArray) (k : Nat) (w : World) (e : Ending) (w' : World) : Prop :=
  e = .returned (.bool b) ∧ (∃ f, RdAt w' R s k false false f false) ∧ w.grownBy w' (some R)
set_option maxRecDepth 100000 in
set_option maxHeartbeats 2000000 in
theorem word (R : Nat) (s m : ByteArray) (k : Nat) (w : World) (h : RdAt w R s 0 false false 0 false) (hs : s.size ≤ 4000) (_hm : m.size ≤ 4000) (hd : Hid (Parts s.data.toList m.data.toList k)) :
    Calls Tryd.prog 10 #[.pointer (some ⟨R, 0, none⟩), .string m] w (WordPost (decide (k = m.size)) R s k w) := by
  have H0 := Lib.hid h
  have hkl : k ≤ s.size := by have := hd.out.1; rw [size_list] at this; exact this
  have hkm : k ≤ m.size := by have := hd.out.2.1; rw [size_list] at this; exact this
  clear h
  obtain ⟨b, hb⟩ : ∃ b, b = decide (k = m.size) := ⟨_, rfl⟩
  rw [← hb]
  have HB := Lib.hid hb
  clear hb
  go_enter Tryd.func10, Tryd.ntmps10
  go_wp2
  go_loopg [8] k (fun n i wx => ∃ j : Nat, j ≤ k ∧ n = k - j ∧ i = .int .i64 j ∧ Hid (RdAt wx R s j false false 0 false) ∧ Hid (w.grownBy wx (some R)))
  case atStart => exact ⟨0, Nat.zero_le _, rfl, rfl, H0.out, grown_refl _ _⟩
  case round =>
    clear H0
    obtain ⟨j, hj, rfl, rfl, hR, hG⟩ := hrel
    by_cases hjk : j < k
    · have hjm : j < m.size := by omega
      have hjs : j < s.size := by omega
      have hx : ((m[j]'hjm).toNat : Int) = atL m.data.toList j := at_eq m j hjm
      have he : atL s.data.toList j = atL m.data.toList j := hd.out.2.2.1 j hjk
      have hlt : (j : Int) < (m.size : Int) := by omega
      have HX := Lib.hid hx
      have HE := Lib.hid he
      clear hx he
      go_wp2
      go_region_with (go_at_call 14; refine (need_ok R s j false false 0 false _ _ _ (hR.out.drewN _) (by omega) hjs (by rw [HE.out, ← HX.out]; exact Int.le_refl _) (by rw [HE.out, ← HX.out]; exact Int.le_refl _)).mono ?_; rintro e w' ⟨rfl, h1, h2⟩)
      all_goals (try go_wp2)
      all_goals (
        go_roundg (k - (j + 1))
        case measure => omega
        case rel => exact ⟨j + 1, hjk, rfl, by go_num, h1, grown_trans (grown_drewN hG.out _) h2⟩)
    · have hje : j = k := by omega
      subst hje
      by_cases hjm : j < m.size
      · have hb : b = false := by rw [HB.out]; simp; omega
        have HB2 := Lib.hid hb
        have hlt : (j : Int) < (m.size : Int) := by omega
        have hx : ((m[j]'hjm).toNat : Int) = atL m.data.toList j := at_eq m j hjm
        have hno : j < s.size → ¬ (((m[j]'hjm).toNat : Int) ≤ atL s.data.toList j ∧ atL s.data.toList j ≤ ((m[j]'hjm).toNat : Int)) := fun q => by
          have := hd.out.2.2.2 (by rw [size_list]; exact q) (by rw [size_list]; exact hjm)
          rw [hx]; omega
        have HNO := Lib.hid hno
        clear hb hx hno hjk
        go_wp2
        go_region_with (go_at_call 14; refine (need_no R s j false false 0 false _ _ _ (hR.out.drewN _) (by omega) hkl HNO.out).mono ?_; rintro e w' ⟨rfl, h1, h2⟩)
        all_goals (try go_wp2)
        all_goals (
          go_ret
          exact ⟨by rw [HB2.out]; rfl, ⟨_, h1⟩, grown_trans (grown_drewN hG.out _) h2⟩)
      · have hb : b = true := by rw [HB.out]; simp; omega
        have HB2 := Lib.hid hb
        have hlt : ¬ (j : Int) < (m.size : Int) := by omega
        clear hb hjk
        go_wp2
        go_ret
        exact ⟨by rw [HB2.out]; rfl, ⟨_, hR.out⟩, hG.out⟩
end Go.Proofs.YtegfdgmbhnfeeaaDoor
