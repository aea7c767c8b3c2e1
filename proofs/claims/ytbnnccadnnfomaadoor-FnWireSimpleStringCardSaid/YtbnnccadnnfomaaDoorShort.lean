/- The statements' short10 (no text has more than 4000 bytes), walked; and a text's bytes in new memory. -/
import Derived.Test.YtbnnccadnnfomaaDoorProg
import Derived.Test.YtbnnccadnnfomaaDoorPlain
import Derived.WalkLawsBesides
import Derived.WalkSpells
import Derived.Lib.Hide
namespace Go.Proofs.YtbnnccadnnfomaaDoor
open Go.RowKit
def okShort (s : ByteArray) : Bool := decide (s.size ≤ 4000)
set_option maxHeartbeats 1000000 in
theorem short10 (b : Nat) (ss : List ByteArray) (cap : Nat) (w : World) (hlen : ss.length ≤ 1000) (hs : ∀ s, s ∈ ss → s.size ≤ 2147483647)
    (hc : ∀ j (h : j < ss.length), w.cell? ⟨b, j, none⟩ = some (.string ss[j])) :
    Calls Tryd.prog 4 #[.slice (some ⟨b, 0, none⟩) ss.length cap] w fun e w' => e = .returned (.bool (ss.all okShort)) ∧ w = w' := by
  have hno : ∀ j (h : j < ss.length), okShort ss[j] = false → ss.all okShort = false := fun j h q => by
    rw [List.all_eq_false]; exact ⟨ss[j], List.getElem_mem h, by rw [q]; simp⟩
  have hyes : (∀ j (h : j < ss.length), okShort ss[j] = true) → ss.all okShort = true := fun q => by
    rw [List.all_eq_true]; intro x hx; obtain ⟨j, h, rfl⟩ := List.getElem_of_mem hx; exact q j h
  generalize ss.all okShort = g at hno hyes ⊢
  have HNO := Lib.hid hno
  have HYES := Lib.hid hyes
  have HC := Lib.hid hc
  have HS := Lib.hid hs
  clear hno hyes hc hs
  obtain ⟨n, hn⟩ : ∃ n, n = ss.length := ⟨_, rfl⟩
  rw [← hn] at hlen ⊢
  have HN := Lib.hid hn
  clear hn
  go_enter Tryd.func4, Tryd.ntmps4
  go_wp2
  go_loop [7] (fun i => ∃ k : Nat, k ≤ n ∧ i = .int .i64 k ∧ Hid (∀ j (h : j < ss.length), j < k → okShort ss[j] = true)) (fun i => n - (intOf i).toNat)
  case atStart => exact ⟨0, Nat.zero_le _, rfl, fun j _ hj => absurd hj (Nat.not_lt_zero _)⟩
  case round =>
    obtain ⟨k, hk, rfl, hall⟩ := hrel
    by_cases hkn : k < n
    · have hks : k < ss.length := by rw [← HN.out]; exact hkn
      obtain ⟨s, hs⟩ : ∃ s, s = ss[k] := ⟨_, rfl⟩
      have hcell : w.cell? ⟨b, k, none⟩ = some (.string s) := by rw [hs]; exact HC.out k hks
      have hsz : s.size ≤ 2147483647 := HS.out s (by rw [hs]; exact List.getElem_mem hks)
      have hoff : ¬ s.size ≤ 4000 → okShort ss[k] = false := fun q => by rw [← hs]; unfold okShort; simpa using q
      have hon : s.size ≤ 4000 → ∀ j (h : j < ss.length), j < k + 1 → okShort ss[j] = true := fun q j h hj => by
        by_cases e : j = k
        · subst e; rw [← hs]; unfold okShort; simpa using q
        · exact hall.out j h (by omega)
      have HOFF := Lib.hid hoff
      have HON := Lib.hid hon
      clear hoff hon hs
      by_cases hlong : s.size ≤ 4000
      · go_wp2
        go_round
        case rel => exact ⟨k + 1, by omega, by go_num, HON.out hlong⟩
        case measure => simp [intOf]; omega
      · go_wp2
        go_ret
        exact ⟨ret_bool (HNO.out k hks (HOFF.out hlong)).symm, rfl⟩
    · go_wp2
      go_ret
      exact ⟨ret_bool (HYES.out fun j h => hall.out j h (by have := HN.out; omega)).symm, rfl⟩
end Go.Proofs.YtbnnccadnnfomaaDoor
