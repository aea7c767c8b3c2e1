/- Plain words on bytes, of no program: the length of a character of UTF-8 at the beginning of a text, and whether a text is Unicode text. -/
import Derived.WalkKit
namespace Go.Proofs.Ytegfdgmbhnfeeaa
open Go.RowKit

/-- The bytes of the first character, or 0 (n: the length of the text; c0 .. c3: its first bytes, as far as it has them). -/
def rl (n c0 c1 c2 c3 : Int) : Int :=
  if c0 < 128 then 1
  else if 194 ≤ c0 ∧ c0 ≤ 223 then if 2 ≤ n ∧ 128 ≤ c1 ∧ c1 ≤ 191 then 2 else 0
  else if 224 ≤ c0 ∧ c0 ≤ 239 then if 3 ≤ n ∧ (c0 = 224 → 160 ≤ c1) ∧ 128 ≤ c1 ∧ c1 ≤ 191 ∧ (c0 = 237 → c1 ≤ 159) ∧ 128 ≤ c2 ∧ c2 ≤ 191 then 3 else 0
  else if 240 ≤ c0 ∧ c0 ≤ 244 then if 4 ≤ n ∧ (c0 = 240 → 144 ≤ c1) ∧ 128 ≤ c1 ∧ c1 ≤ 191 ∧ (c0 = 244 → c1 ≤ 143) ∧ 128 ≤ c2 ∧ c2 ≤ 191 ∧ 128 ≤ c3 ∧ c3 ≤ 191 then 4 else 0
  else 0
/-- Byte k of a list, as a number. -/
def atL (l : List UInt8) (k : Nat) : Int := ((l.getD k 0).toNat : Int)
theorem at_eq (s : ByteArray) (k : Nat) (h : k < s.size) : ((s[k]'h).toNat : Int) = atL s.data.toList k := by
  unfold atL
  rw [List.getD_eq_getElem?_getD, List.getElem?_eq_getElem (by simpa using h)]; rfl
theorem atL_range (l : List UInt8) (k : Nat) : 0 ≤ atL l k ∧ atL l k < 256 := by
  unfold atL; have := (l.getD k 0).toNat_lt; omega
theorem size_list (s : ByteArray) : s.data.toList.length = s.size := by simp
theorem ret_i64 {a b : Int} (h : a = b) : Ending.returned (.int .i64 a) = .returned (.int .i64 b) := by rw [h]
theorem ret_bool {a b : Bool} (h : a = b) : Ending.returned (.bool a) = .returned (.bool b) := by rw [h]
/-- The same of a list. -/
def rlL (l : List UInt8) : Int := rl l.length (atL l 0) (atL l 1) (atL l 2) (atL l 3)
theorem rlL_range (l : List UInt8) (h : 0 < l.length) : 0 ≤ rlL l ∧ rlL l ≤ 4 ∧ rlL l ≤ l.length := by
  unfold rlL rl
  repeat' split
  all_goals omega
/-- Whether a text is Unicode text, by so many rounds at most. -/
def isTxtF : Nat → List UInt8 → Bool
  | 0, l => l.isEmpty
  | _ + 1, [] => true
  | n + 1, c :: r => if rlL (c :: r) = 0 then false else isTxtF n ((c :: r).drop (rlL (c :: r)).toNat)
def isTxt (l : List UInt8) : Bool := isTxtF l.length l
theorem isTxtF_cons (n : Nat) (c : UInt8) (r : List UInt8) : isTxtF (n + 1) (c :: r) = if rlL (c :: r) = 0 then false else isTxtF n ((c :: r).drop (rlL (c :: r)).toNat) := by rw [isTxtF]
theorem isTxtF_eq : ∀ (n m : Nat) (l : List UInt8), l.length ≤ n → l.length ≤ m → isTxtF n l = isTxtF m l
  | 0, m, l, hn, _ => by
    obtain rfl : l = [] := List.eq_nil_of_length_eq_zero (by omega)
    cases m <;> simp [isTxtF]
  | n + 1, 0, l, _, hm => by
    obtain rfl : l = [] := List.eq_nil_of_length_eq_zero (by omega)
    simp [isTxtF]
  | n + 1, m + 1, l, hn, hm => by
    cases l with
    | nil => simp [isTxtF]
    | cons c r =>
      rw [isTxtF_cons, isTxtF_cons]
      by_cases h : rlL (c :: r) = 0
      · simp [h]
      · have hr := rlL_range (c :: r) (by simp)
        rw [if_neg h, if_neg h]
        have hd : ((c :: r).drop (rlL (c :: r)).toNat).length ≤ r.length := by rw [List.length_drop, List.length_cons]; omega
        simp only [List.length_cons] at hn hm
        exact isTxtF_eq n m _ (by omega) (by omega)
theorem isTxt_nil : isTxt [] = true := rfl
theorem isTxt_no (l : List UInt8) (h : 0 < l.length) (h0 : rlL l = 0) : isTxt l = false := by
  cases l with
  | nil => simp at h
  | cons c r => unfold isTxt; rw [List.length_cons, isTxtF_cons, if_pos h0]
theorem isTxt_step (l : List UInt8) (h : 0 < l.length) (h0 : ¬ rlL l = 0) : isTxt l = isTxt (l.drop (rlL l).toNat) := by
  cases l with
  | nil => simp at h
  | cons c r =>
    have hr := rlL_range (c :: r) (by simp)
    unfold isTxt
    rw [List.length_cons, isTxtF_cons, if_neg h0]
    exact isTxtF_eq _ _ _ (by rw [List.length_drop, List.length_cons]; omega) (Nat.le_refl _)
end Go.Proofs.Ytegfdgmbhnfeeaa
