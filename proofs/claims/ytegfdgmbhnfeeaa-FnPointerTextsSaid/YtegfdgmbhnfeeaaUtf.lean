/- Plain words on UTF-8, of no program: what Go's DecodeRune hands back, against the length of the first character; a text's characters one by one. -/
import Derived.Test.YtegfdgmbhnfeeaaPlain
import Derived.Lib.DecodeN
namespace Go.Proofs.Ytegfdgmbhnfeeaa
open Go.RowKit
/-- The width of what is read: 1 at what is no character. -/
def decW (l : List UInt8) : Nat := if rlL l = 0 then 1 else (rlL l).toNat
def natL (l : List UInt8) (k : Nat) : Nat := (l.getD k 0).toNat
theorem natL_at (l : List UInt8) (k : Nat) : atL l k = (natL l k : Int) := rfl
theorem natL_lt (l : List UInt8) (k : Nat) : natL l k < 256 := (l.getD k 0).toNat_lt
/-- The model's decode at the head of a list. -/
def decN (l : List UInt8) : Nat × Nat := Go.Lib.decodeN l.length (natL l 0) (natL l 1) (natL l 2) (natL l 3)
set_option maxHeartbeats 4000000 in
theorem dec_rl (n b0 b1 b2 b3 : Nat) (_hn : 1 ≤ n) (h0 : b0 < 256) (h1 : b1 < 256) (h2 : b2 < 256) (h3 : b3 < 256) :
    (rl n b0 b1 b2 b3 = 0 → Go.Lib.decodeN n b0 b1 b2 b3 = (65533, 1)) ∧
    (¬ rl n b0 b1 b2 b3 = 0 → ((Go.Lib.decodeN n b0 b1 b2 b3).2 : Int) = rl n b0 b1 b2 b3 ∧ (128 ≤ b0 → 2 ≤ rl n b0 b1 b2 b3 ∧ 128 ≤ (Go.Lib.decodeN n b0 b1 b2 b3).1) ∧ (Go.Lib.decodeN n b0 b1 b2 b3).1 < 1114112 ∧
      ((Go.Lib.decodeN n b0 b1 b2 b3).1 = 65533 ↔ b0 = 239 ∧ b1 = 191 ∧ b2 = 189) ∧ ((Go.Lib.decodeN n b0 b1 b2 b3).1 = 8232 ↔ b0 = 226 ∧ b1 = 128 ∧ b2 = 168) ∧ ((Go.Lib.decodeN n b0 b1 b2 b3).1 = 8233 ↔ b0 = 226 ∧ b1 = 128 ∧ b2 = 169)) := by
  by_cases q : b0 < 128
  · have e : Go.Lib.decodeN n b0 b1 b2 b3 = (b0, 1) := by unfold Go.Lib.decodeN; rw [if_pos q]
    have e2 : rl n b0 b1 b2 b3 = 1 := by unfold rl; rw [if_pos (by omega)]
    rw [e, e2]
    refine ⟨by omega, fun _ => ⟨rfl, by omega, by show b0 < _; omega, ?_, ?_, ?_⟩⟩ <;> (show b0 = _ ↔ _; omega)
  by_cases q2 : b0 < 194
  · have e : Go.Lib.decodeN n b0 b1 b2 b3 = (65533, 1) := by unfold Go.Lib.decodeN; (repeat' split) <;> first | with_reducible rfl | (exfalso; omega)
    have e2 : rl n b0 b1 b2 b3 = 0 := by unfold rl; (repeat' split) <;> omega
    rw [e, e2]
    exact ⟨fun _ => rfl, fun h => absurd rfl h⟩
  by_cases q3 : b0 < 224
  · by_cases v : 2 ≤ n ∧ 128 ≤ b1 ∧ b1 ≤ 191
    · have e : Go.Lib.decodeN n b0 b1 b2 b3 = (b0 % 32 * 64 + b1 % 64, 2) := by unfold Go.Lib.decodeN; (repeat' split) <;> first | with_reducible rfl | (exfalso; omega)
      have e2 : rl n b0 b1 b2 b3 = 2 := by unfold rl; (repeat' split) <;> omega
      rw [e, e2]
      refine ⟨by omega, fun _ => ⟨rfl, fun _ => ⟨by omega, ?_⟩, ?_, ?_, ?_, ?_⟩⟩ <;> (simp only; omega)
    · have e : Go.Lib.decodeN n b0 b1 b2 b3 = (65533, 1) := by unfold Go.Lib.decodeN; (repeat' split) <;> first | with_reducible rfl | (exfalso; omega)
      have e2 : rl n b0 b1 b2 b3 = 0 := by unfold rl; (repeat' split) <;> omega
      rw [e, e2]
      exact ⟨fun _ => rfl, fun h => absurd rfl h⟩
  by_cases q4 : b0 < 240
  · by_cases v : 3 ≤ n ∧ (b0 = 224 → 160 ≤ b1) ∧ 128 ≤ b1 ∧ b1 ≤ 191 ∧ (b0 = 237 → b1 ≤ 159) ∧ 128 ≤ b2 ∧ b2 ≤ 191
    · have e : Go.Lib.decodeN n b0 b1 b2 b3 = (b0 % 16 * 4096 + b1 % 64 * 64 + b2 % 64, 3) := by unfold Go.Lib.decodeN; (repeat' split) <;> first | with_reducible rfl | (exfalso; omega)
      have e2 : rl n b0 b1 b2 b3 = 3 := by unfold rl; (repeat' split) <;> omega
      rw [e, e2]
      refine ⟨by omega, fun _ => ⟨rfl, fun _ => ⟨by omega, ?_⟩, ?_, ?_, ?_, ?_⟩⟩ <;> (simp only; omega)
    · have e : Go.Lib.decodeN n b0 b1 b2 b3 = (65533, 1) := by unfold Go.Lib.decodeN; (repeat' split) <;> first | with_reducible rfl | (exfalso; omega)
      have e2 : rl n b0 b1 b2 b3 = 0 := by unfold rl; (repeat' split) <;> omega
      rw [e, e2]
      exact ⟨fun _ => rfl, fun h => absurd rfl h⟩
  by_cases q5 : b0 ≤ 244
  · by_cases v : 4 ≤ n ∧ (b0 = 240 → 144 ≤ b1) ∧ 128 ≤ b1 ∧ b1 ≤ 191 ∧ (b0 = 244 → b1 ≤ 143) ∧ 128 ≤ b2 ∧ b2 ≤ 191 ∧ 128 ≤ b3 ∧ b3 ≤ 191
    · have e : Go.Lib.decodeN n b0 b1 b2 b3 = (b0 % 8 * 262144 + b1 % 64 * 4096 + b2 % 64 * 64 + b3 % 64, 4) := by unfold Go.Lib.decodeN; (repeat' split) <;> first | with_reducible rfl | (exfalso; omega)
      have e2 : rl n b0 b1 b2 b3 = 4 := by unfold rl; (repeat' split) <;> omega
      rw [e, e2]
      refine ⟨by omega, fun _ => ⟨rfl, fun _ => ⟨by omega, ?_⟩, ?_, ?_, ?_, ?_⟩⟩ <;> (simp only; omega)
    · have e : Go.Lib.decodeN n b0 b1 b2 b3 = (65533, 1) := by unfold Go.Lib.decodeN; (repeat' split) <;> first | with_reducible rfl | (exfalso; omega)
      have e2 : rl n b0 b1 b2 b3 = 0 := by unfold rl; (repeat' split) <;> omega
      rw [e, e2]
      exact ⟨fun _ => rfl, fun h => absurd rfl h⟩
  · have e : Go.Lib.decodeN n b0 b1 b2 b3 = (65533, 1) := by unfold Go.Lib.decodeN; (repeat' split) <;> first | with_reducible rfl | (exfalso; omega)
    have e2 : rl n b0 b1 b2 b3 = 0 := by unfold rl; (repeat' split) <;> omega
    rw [e, e2]
    exact ⟨fun _ => rfl, fun h => absurd rfl h⟩
theorem decW_range (l : List UInt8) (h : 0 < l.length) : 1 ≤ decW l ∧ decW l ≤ 4 ∧ decW l ≤ l.length := by
  have := rlL_range l h
  unfold decW; split <;> omega
theorem decN_two (l : List UInt8) (h : 0 < l.length) : (decN l).2 = decW l := by
  have := dec_rl l.length (natL l 0) (natL l 1) (natL l 2) (natL l 3) h (natL_lt _ _) (natL_lt _ _) (natL_lt _ _) (natL_lt _ _)
  have hr := rlL_range l h
  unfold decW decN
  by_cases q : rlL l = 0
  · rw [if_pos q, this.1 q]
  · rw [if_neg q]
    have := (this.2 q).1
    have e : rl l.length (natL l 0) (natL l 1) (natL l 2) (natL l 3) = rlL l := rfl
    rw [e] at this
    omega
end Go.Proofs.Ytegfdgmbhnfeeaa
