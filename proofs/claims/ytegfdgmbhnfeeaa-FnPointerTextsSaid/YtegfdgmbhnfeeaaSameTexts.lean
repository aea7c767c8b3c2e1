/- The reference's SameTexts, walked: whether two lists of texts in memory are equal; nothing is written. -/
import Derived.Test.YtegfdgmbhnfeeaaProg
import Derived.Test.YtegfdgmbhnfeeaaPlain
import Derived.WalkLawsBesides
import Derived.WalkSpells
import Derived.Lib.Hide
namespace Go.Proofs.Ytegfdgmbhnfeeaa
open Go.RowKit
/-- Texts as the cells of a row. -/
def encs (out : List (List UInt8)) : List Value := out.map fun l => .string ⟨l.toArray⟩
theorem encs_get (out : List (List UInt8)) (j : Nat) (h : j < out.length) : (encs out)[j]? = some (.string ⟨(out[j]'h).toArray⟩) := by
  simp [encs, h]
theorem str_beq (a b : List UInt8) : ((ByteArray.mk a.toArray).toList == (ByteArray.mk b.toArray).toList) = (a == b) := by
  rw [ByteArray.toList_eq, ByteArray.toList_eq]
/-- A row of texts at the beginning of a block. -/
def TextsAt (w : World) (g : Nat) (A : List (List UInt8)) : Prop := ∀ j, j < A.length → w.cell? ⟨g, j, none⟩ = (encs A)[j]?
set_option maxHeartbeats 1000000 in
theorem sameTexts (g1 c1 g2 c2 : Nat) (A B : List (List UInt8)) (w : World) (hA : A.length ≤ 4294967296) (hB : B.length ≤ 4294967296) (hcA : TextsAt w g1 A) (hcB : TextsAt w g2 B) :
    Calls Try.prog 24 #[.slice (some ⟨g1, 0, none⟩) A.length c1, .slice (some ⟨g2, 0, none⟩) B.length c2] w fun e w' => e = .returned (.bool (A == B)) ∧ w = w' := by
  by_cases hl : A.length = B.length
  · have hno : ∀ j (h1 : j < A.length) (h2 : j < B.length), (A[j] == B[j]) = false → (A == B) = false := fun j h1 h2 q => by
      rw [beq_eq_false_iff_ne] at q ⊢
      intro e; subst e; exact q rfl
    have hyes : (∀ j (h1 : j < A.length) (h2 : j < B.length), (A[j] == B[j]) = true) → (A == B) = true := fun q => by
      rw [beq_iff_eq]
      apply List.ext_getElem hl
      intro j h1 h2
      exact beq_iff_eq.1 (q j h1 h2)
    obtain ⟨n, hn⟩ : ∃ n, n = A.length := ⟨_, rfl⟩
    have hnB : n = B.length := hn.trans hl
    rw [← hnB, ← hn]
    rw [← hn] at hA
    generalize (A == B) = r at hno hyes ⊢
    have HNO := Lib.hid hno
    have HYES := Lib.hid hyes
    have HN := Lib.hid hn
    have HNB := Lib.hid hnB
    have HCA := Lib.hid hcA
    have HCB := Lib.hid hcB
    clear hno hyes hn hnB hcA hcB hl hB
    go_enter Try.func24, Try.ntmps24
    go_wp2
    go_loop [14] (fun i => ∃ k : Nat, k ≤ n ∧ i = .int .i64 k ∧ Hid (∀ j (h1 : j < A.length) (h2 : j < B.length), j < k → (A[j] == B[j]) = true)) (fun i => n - (intOf i).toNat)
    case atStart => exact ⟨0, Nat.zero_le _, rfl, fun j _ _ hj => absurd hj (Nat.not_lt_zero _)⟩
    case round =>
      obtain ⟨k, hk, rfl, hall⟩ := hrel
      by_cases hkn : k < n
      · have h1 : k < A.length := by rw [← HN.out]; exact hkn
        have h2 : k < B.length := by rw [← HNB.out]; exact hkn
        obtain ⟨x, hx⟩ : ∃ x : ByteArray, x = ⟨A[k].toArray⟩ := ⟨_, rfl⟩
        obtain ⟨y, hy⟩ : ∃ y : ByteArray, y = ⟨B[k].toArray⟩ := ⟨_, rfl⟩
        have ha : w.cell? ⟨g1, k, none⟩ = some (.string x) := by rw [hx, HCA.out k h1]; exact encs_get A k h1
        have hb : w.cell? ⟨g2, k, none⟩ = some (.string y) := by rw [hy, HCB.out k h2]; exact encs_get B k h2
        have hxy : (x.toList == y.toList) = (A[k] == B[k]) := by rw [hx, hy]; exact str_beq _ _
        cases he : (x.toList == y.toList)
        · have HE : Hid ((A[k] == B[k]) = false) := hxy.symm.trans he
          clear hxy hx hy
          go_wp2
          go_ret
          exact ⟨ret_bool (HNO.out k h1 h2 HE.out).symm, rfl⟩
        · have HE : Hid ((A[k] == B[k]) = true) := hxy.symm.trans he
          clear hxy hx hy
          go_wp2
          go_round
          case rel => exact ⟨k + 1, by omega, by go_num, fun j q1 q2 hj => by
            by_cases e : j = k
            · subst e; exact HE.out
            · exact hall.out j q1 q2 (by omega)⟩
          case measure => simp [intOf]; omega
      · go_wp2
        go_ret
        exact ⟨ret_bool (HYES.out fun j q1 q2 => hall.out j q1 q2 (by have := HN.out; omega)).symm, rfl⟩
  · have hf : (A == B) = false := by rw [beq_eq_false_iff_ne]; intro e; exact hl (by rw [e])
    rw [hf]
    have hl' : ((A.length : Int) != (B.length : Int)) = true := by simp; omega
    clear hf
    generalize A.length = n at hl hl' hA ⊢
    generalize B.length = m at hl hl' hB ⊢
    clear hl hcA hcB
    go_enter Try.func24, Try.ntmps24
    go_wp2
    go_ret
    exact ⟨rfl, rfl⟩
end Go.Proofs.Ytegfdgmbhnfeeaa
