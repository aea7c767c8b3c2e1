/- The statements' fits8 (no text has more than 1000 bytes), walked. -/
import Derived.Test.YtldcoaigecnpfaaDoorProg
import Derived.Test.YtldcoaigecnpfaaDoorPlain
import Derived.WalkLawsBesides
import Derived.WalkSpells
import Derived.Lib.Hide
namespace Go.Proofs.YtldcoaigecnpfaaDoor
open Go.RowKit
def okFit (s : ByteArray) : Bool := decide (s.size ≤ 1000)
set_option maxHeartbeats 1000000 in
theorem fits8 (b : Nat) (ss : List ByteArray) (cap : Nat) (w : World) (hlen : ss.length ≤ 1000) (hs : ∀ s, s ∈ ss → s.size ≤ 2147483647)
    (hc : ∀ j (h : j < ss.length), w.cell? ⟨b, j, none⟩ = some (.string ss[j])) :
    Calls Tryd.prog 12 #[.slice (some ⟨b, 0, none⟩) ss.length cap] w fun e w' => e = .returned (.bool (ss.all okFit)) ∧ w = w' := by
  have hno : ∀ j (h : j < ss.length), okFit ss[j] = false → ss.all okFit = false := fun j h q => by
    rw [List.all_eq_false]; exact ⟨ss[j], List.getElem_mem h, by rw [q]; simp⟩
  have hyes : (∀ j (h : j < ss.length), okFit ss[j] = true) → ss.all okFit = true := fun q => by
    rw [List.all_eq_true]; intro x hx; obtain ⟨j, h, rfl⟩ := List.getElem_of_mem hx; exact q j h
  generalize ss.all okFit = g at hno hyes ⊢
  have HNO := Lib.hid hno
  have HYES := Lib.hid hyes
  have HC := Lib.hid hc
  have HS := Lib.hid hs
  clear hno hyes hc hs
  obtain ⟨n, hn⟩ : ∃ n, n = ss.length := ⟨_, rfl⟩
  rw [← hn] at hlen ⊢
  have HN := Lib.hid hn
  clear hn
  go_enter Tryd.func12, Tryd.ntmps12
  go_wp2
  go_loop [7] (fun i => ∃ k : Nat, k ≤ n ∧ i = .int .i64 k ∧ Hid (∀ j (h : j < ss.length), j < k → okFit ss[j] = true)) (fun i => n - (intOf i).toNat)
  case atStart => exact ⟨0, Nat.zero_le _, rfl, fun j _ hj => absurd hj (Nat.not_lt_zero _)⟩
  case round =>
    obtain ⟨k, hk, rfl, hall⟩ := hrel
    by_cases hkn : k < n
    · have hks : k < ss.length := by rw [← HN.out]; exact hkn
      obtain ⟨s, hs⟩ : ∃ s, s = ss[k] := ⟨_, rfl⟩
      have hcell : w.cell? ⟨b, k, none⟩ = some (.string s) := by rw [hs]; exact HC.out k hks
      have hsz : s.size ≤ 2147483647 := HS.out s (by rw [hs]; exact List.getElem_mem hks)
      have hoff : ¬ s.size ≤ 1000 → okFit ss[k] = false := fun q => by rw [← hs]; unfold okFit; simpa using q
      have hon : s.size ≤ 1000 → ∀ j (h : j < ss.length), j < k + 1 → okFit ss[j] = true := fun q j h hj => by
        by_cases e : j = k
        · subst e; rw [← hs]; unfold okFit; simpa using q
        · exact hall.out j h (by omega)
      have HOFF := Lib.hid hoff
      have HON := Lib.hid hon
      clear hoff hon hs
      by_cases hlong : s.size ≤ 1000
      · go_wp2
        go_round
        case rel => exact ⟨k + 1, by omega, by go_num, HON.out hlong⟩
        case measure => simp [intOf]; omega
      · go_wp2
        go_ret
        exact ⟨ret_bool (HNO.out k hks (HOFF.out hlong)).symm, rfl⟩
    · go_wp2
      go_ret
      exact ⟨ret_bool (HYES.out fun j h => hall.out j h (by have := HN.out; omega)).symm, rfl⟩
theorem fit1 (p : ByteArray) (w : World) (hp : p.size ≤ 2147483647) :
    Calls Tryd.prog 12 #[.slice (some ⟨w.heap.size, 0, none⟩) 1 1] (w.alloc (Obj.cells #[.string p] 9)) fun e w' => e = .returned (.bool (okFit p)) ∧ w.alloc (Obj.cells #[.string p] 9) = w' := by
  have := fits8 w.heap.size [p] 1 (w.alloc (Obj.cells #[.string p] 9)) (by simp) (fun s hs => by simp at hs; subst hs; assumption) (fun j h => by
    match j, h with
    | 0, _ => simp)
  have e : [p].all okFit = okFit p := by simp
  rw [e] at this
  exact this
theorem fit2 (p q : ByteArray) (w : World) (hp : p.size ≤ 2147483647) (hq : q.size ≤ 2147483647) :
    Calls Tryd.prog 12 #[.slice (some ⟨w.heap.size, 0, none⟩) 2 2] (w.alloc (Obj.cells #[.string p, .string q] 9)) fun e w' => e = .returned (.bool (okFit p && okFit q)) ∧ w.alloc (Obj.cells #[.string p, .string q] 9) = w' := by
  have := fits8 w.heap.size [p, q] 2 (w.alloc (Obj.cells #[.string p, .string q] 9)) (by simp) (fun s hs => by simp at hs; rcases hs with rfl | rfl <;> assumption) (fun j h => by
    match j, h with
    | 0, _ => simp
    | 1, _ => simp)
  have e : [p, q].all okFit = (okFit p && okFit q) := by simp
  rw [e] at this
  exact this
end Go.Proofs.YtldcoaigecnpfaaDoor
