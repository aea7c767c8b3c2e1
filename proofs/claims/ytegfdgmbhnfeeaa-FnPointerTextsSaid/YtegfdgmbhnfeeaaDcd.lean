/- Plain words: the string for which the text of a string stands, its escapes read and what is no character replaced. Of no program. -/
import Derived.Test.YtegfdgmbhnfeeaaRunF
import Derived.Lib.RuneBytes
namespace Go.Proofs.Ytegfdgmbhnfeeaa
open Go.RowKit
/-- Piece by piece, each piece of its own width (k bytes of a piece that has begun are still to be passed). -/
def runW (wd : List UInt8 → Nat) (p : List UInt8 → List UInt8) : Nat → List UInt8 → List UInt8
  | _, [] => []
  | k + 1, _ :: r => runW wd p k r
  | 0, c :: r => p (c :: r) ++ runW wd p (wd (c :: r) - 1) r
/-- Whether all pieces are such. -/
def allW (wd : List UInt8 → Nat) (p : List UInt8 → Bool) : Nat → List UInt8 → Bool
  | _, [] => true
  | k + 1, _ :: r => allW wd p k r
  | 0, c :: r => p (c :: r) && allW wd p (wd (c :: r) - 1) r
theorem runW_nil (wd : List UInt8 → Nat) (p : List UInt8 → List UInt8) (k : Nat) : runW wd p k [] = [] := by cases k <;> rfl
theorem allW_nil (wd : List UInt8 → Nat) (p : List UInt8 → Bool) (k : Nat) : allW wd p k [] = true := by cases k <;> rfl
theorem runW_drop (wd : List UInt8 → Nat) (p : List UInt8 → List UInt8) : ∀ (k : Nat) (l : List UInt8), runW wd p k l = runW wd p 0 (l.drop k)
  | 0, l => by simp
  | k + 1, [] => by simp [runW_nil]
  | k + 1, c :: r => by rw [runW, runW_drop wd p k r]; rfl
theorem allW_drop (wd : List UInt8 → Nat) (p : List UInt8 → Bool) : ∀ (k : Nat) (l : List UInt8), allW wd p k l = allW wd p 0 (l.drop k)
  | 0, l => by simp
  | k + 1, [] => by simp [allW_nil]
  | k + 1, c :: r => by rw [allW, allW_drop wd p k r]; rfl
theorem runW_step (wd : List UInt8 → Nat) (p : List UInt8 → List UInt8) (l : List UInt8) (h : 0 < l.length) (hw : 1 ≤ wd l) : runW wd p 0 l = p l ++ runW wd p 0 (l.drop (wd l)) := by
  cases l with
  | nil => simp at h
  | cons c r =>
    obtain ⟨n, hn⟩ : ∃ n, wd (c :: r) = n + 1 := ⟨wd (c :: r) - 1, by omega⟩
    rw [runW, hn, runW_drop]; rfl
theorem allW_step (wd : List UInt8 → Nat) (p : List UInt8 → Bool) (l : List UInt8) (h : 0 < l.length) (hw : 1 ≤ wd l) : allW wd p 0 l = (p l && allW wd p 0 (l.drop (wd l))) := by
  cases l with
  | nil => simp at h
  | cons c r =>
    obtain ⟨n, hn⟩ : ∃ n, wd (c :: r) = n + 1 := ⟨wd (c :: r) - 1, by omega⟩
    rw [allW, hn, allW_drop]; rfl
/-- At most m times as long. -/
theorem runW_length (wd : List UInt8 → Nat) (p : List UInt8 → List UInt8) (m : Nat) (hw : ∀ l, 0 < l.length → 1 ≤ wd l) (hp : ∀ l, 0 < l.length → (p l).length ≤ m) : ∀ (n : Nat) (l : List UInt8), l.length ≤ n → (runW wd p 0 l).length ≤ m * l.length
  | _, [], _ => by simp [runW_nil]
  | 0, c :: r, h => by simp at h
  | n + 1, c :: r, h => by
    have h0 := hw (c :: r) (by simp)
    rw [runW_step wd p _ (by simp) h0, List.length_append]
    have h1 := hp (c :: r) (by simp)
    have h2 := runW_length wd p m hw hp n ((c :: r).drop (wd (c :: r))) (by rw [List.length_drop]; simp only [List.length_cons] at h ⊢; omega)
    rw [List.length_drop] at h2
    have e : m * ((c :: r).length - wd (c :: r)) ≤ m * ((c :: r).length - 1) := Nat.mul_le_mul_left _ (by omega)
    have e2 : m * (c :: r).length = m * ((c :: r).length - 1) + m := by
      have : (c :: r).length = ((c :: r).length - 1) + 1 := by simp
      conv => lhs; rw [this, Nat.mul_succ]
    omega
/-- The number of a hexadecimal digit, or -1. -/
def hx (c : Int) : Int := if 48 ≤ c ∧ c ≤ 57 then c - 48 else if 97 ≤ c ∧ c ≤ 102 then c - 87 else if 65 ≤ c ∧ c ≤ 70 then c - 55 else -1
theorem hx_range (c : Int) : -1 ≤ hx c ∧ hx c ≤ 15 := by unfold hx; (repeat' split) <;> omega
/-- Four digits. -/
def hexOk (l : List UInt8) : Prop := 0 ≤ hx (atL l 2) ∧ 0 ≤ hx (atL l 3) ∧ 0 ≤ hx (atL l 4) ∧ 0 ≤ hx (atL l 5)
instance (l : List UInt8) : Decidable (hexOk l) := by unfold hexOk; infer_instance
def hexV (l : List UInt8) : Int := ((hx (atL l 2) * 16 + hx (atL l 3)) * 16 + hx (atL l 4)) * 16 + hx (atL l 5)
/-- The number of an escape by digits at the head, or -1. -/
def uV (l : List UInt8) : Int := if 6 ≤ l.length ∧ atL l 0 = 92 ∧ atL l 1 = 117 ∧ hexOk l then hexV l else -1
theorem hexV_range (l : List UInt8) (h : hexOk l) : 0 ≤ hexV l ∧ hexV l ≤ 65535 := by
  have a := hx_range (atL l 2)
  have b := hx_range (atL l 3)
  have c := hx_range (atL l 4)
  have d := hx_range (atL l 5)
  obtain ⟨a', b', c', d'⟩ := h
  unfold hexV
  omega
theorem uV_range (l : List UInt8) : -1 ≤ uV l ∧ uV l ≤ 65535 := by
  unfold uV
  split
  · next h => have := hexV_range l h.2.2.2; omega
  · omega
theorem uV_ok {l : List UInt8} (h : 0 ≤ uV l) : 6 ≤ l.length ∧ atL l 0 = 92 ∧ atL l 1 = 117 ∧ hexOk l := by
  unfold uV at h
  split at h
  · assumption
  · omega
/-- Two halves of one character. -/
def pairOk (c d : Int) : Prop := 55296 ≤ c ∧ c < 56320 ∧ 56320 ≤ d ∧ d ≤ 57343
instance (c d : Int) : Decidable (pairOk c d) := by unfold pairOk; infer_instance
def pairV (c d : Int) : Int := 65536 + (c - 55296) * 1024 + (d - 56320)
theorem pairV_range {c d : Int} (h : pairOk c d) : 65536 ≤ pairV c d ∧ pairV c d ≤ 1114111 := by
  obtain ⟨h1, h2, h3, h4⟩ := h; unfold pairV; omega
def halfU (c : Int) : Prop := 55296 ≤ c ∧ c ≤ 57343
instance (c : Int) : Decidable (halfU c) := by unfold halfU; infer_instance
/-- What an escape by digits stands for, and its width. -/
def uniC (l : List UInt8) : List UInt8 := if halfU (uV l) then (if pairOk (uV l) (uV (l.drop 6)) then Lib.encodeRune (pairV (uV l) (uV (l.drop 6))) else BR) else Lib.encodeRune (uV l)
def uniW (l : List UInt8) : Nat := if pairOk (uV l) (uV (l.drop 6)) then 12 else 6
def escC (l : List UInt8) : List UInt8 :=
  if natL l 1 = 98 then [8] else if natL l 1 = 102 then [12] else if natL l 1 = 110 then [10] else if natL l 1 = 114 then [13] else if natL l 1 = 116 then [9] else if natL l 1 = 117 then uniC l else [l.getD 1 0]
def escW (l : List UInt8) : Nat := if natL l 1 = 117 then uniW l else 2
/-- What a piece stands for, and its width. -/
def dcC (l : List UInt8) : List UInt8 := if natL l 0 = 92 then escC l else mendC l
def dcW (l : List UInt8) : Nat := if natL l 0 = 92 then escW l else decW l
/-- The string for which the bytes between the quotation marks stand. -/
def dcL (l : List UInt8) : List UInt8 := runW dcW dcC 0 l
/-- Whether the piece at the head is one (by loose rules). -/
def okPc (l : List UInt8) : Bool := if natL l 0 = 92 then decide (2 ≤ l.length ∧ (natL l 1 = 34 ∨ natL l 1 = 92 ∨ natL l 1 = 47 ∨ natL l 1 = 98 ∨ natL l 1 = 102 ∨ natL l 1 = 110 ∨ natL l 1 = 114 ∨ natL l 1 = 116 ∨ (natL l 1 = 117 ∧ 0 ≤ uV l))) else decide (¬ natL l 0 = 34 ∧ 32 ≤ natL l 0)
def okL (l : List UInt8) : Bool := allW dcW okPc 0 l
/-- Whether nothing of the piece at the head is replaced. -/
def neatC (l : List UInt8) : Bool := if natL l 0 = 92 then !decide (natL l 1 = 117 ∧ halfU (uV l) ∧ ¬ pairOk (uV l) (uV (l.drop 6))) else decide (¬ rlL l = 0)
def neatL (l : List UInt8) : Bool := allW dcW neatC 0 l
theorem uniW_range (l : List UInt8) : 6 ≤ uniW l ∧ uniW l ≤ 12 := by unfold uniW; split <;> omega
theorem dcW_pos (l : List UInt8) (h : 0 < l.length) : 1 ≤ dcW l := by
  have := decW_range l h
  have := uniW_range l
  unfold dcW escW; (repeat' split) <;> omega
theorem dcW_le (l : List UInt8) (h : 0 < l.length) (hk : okPc l = true) : dcW l ≤ l.length := by
  unfold okPc at hk
  unfold dcW
  by_cases a : natL l 0 = 92
  · rw [if_pos a] at hk ⊢
    rw [decide_eq_true_iff] at hk
    unfold escW
    by_cases b : natL l 1 = 117
    · rw [if_pos b]
      have hu : 0 ≤ uV l := by have := hk.2; omega
      have h6 := (uV_ok hu).1
      unfold uniW
      split
      · next q =>
        have := (uV_ok (l := l.drop 6) (by have := q.2.2.1; omega)).1
        rw [List.length_drop] at this
        omega
      · exact h6
    · rw [if_neg b]; exact hk.1
  · rw [if_neg a]; exact (decW_range l h).2.2
theorem dcL_step (l : List UInt8) (h : 0 < l.length) : dcL l = dcC l ++ dcL (l.drop (dcW l)) := runW_step _ _ _ h (dcW_pos l h)
theorem okL_step {l : List UInt8} (hk : okL l = true) (h : 0 < l.length) : okPc l = true ∧ okL (l.drop (dcW l)) = true := by
  have e : okL l = (okPc l && okL (l.drop (dcW l))) := allW_step _ _ _ h (dcW_pos l h)
  rw [e, Bool.and_eq_true] at hk
  exact hk
theorem neatL_step (l : List UInt8) (h : 0 < l.length) : neatL l = (neatC l && neatL (l.drop (dcW l))) := allW_step _ _ _ h (dcW_pos l h)
theorem enc_length (r : Int) : 1 ≤ (Lib.encodeRune r).length ∧ (Lib.encodeRune r).length ≤ 4 := by
  rw [← Lib.runeCells_length]; exact Lib.runeCells_le r
theorem uniC_length (l : List UInt8) : (uniC l).length ≤ 4 := by
  unfold uniC
  split
  · split
    · exact (enc_length _).2
    · show 3 ≤ 4; omega
  · exact (enc_length _).2
theorem escC_length (l : List UInt8) : (escC l).length ≤ 4 := by
  have := uniC_length l
  unfold escC
  (repeat' split) <;> first | exact this | (simp)
theorem dcC_length (l : List UInt8) (h : 0 < l.length) : (dcC l).length ≤ 4 := by
  unfold dcC
  split
  · exact escC_length l
  · unfold mendC
    split
    · show 3 ≤ 4; omega
    · rw [List.length_take]; have := decW_range l h; omega
theorem dcL_length (l : List UInt8) : (dcL l).length ≤ 4 * l.length := runW_length dcW dcC 4 dcW_pos dcC_length l.length l (Nat.le_refl _)
theorem BR_enc : Lib.encodeRune 65533 = BR := by decide
theorem takeD1 (l : List UInt8) (h : 1 ≤ l.length) : l.take 1 = [l.getD 0 0] := by
  match l, h with
  | a :: r, _ => simp
theorem takeD2 (l : List UInt8) (h : 2 ≤ l.length) : l.take 2 = [l.getD 0 0, l.getD 1 0] := by
  match l, h with
  | a :: b :: r, _ => simp
theorem takeD3 (l : List UInt8) (h : 3 ≤ l.length) : l.take 3 = [l.getD 0 0, l.getD 1 0, l.getD 2 0] := by
  match l, h with
  | a :: b :: c :: r, _ => simp
theorem takeD4 (l : List UInt8) (h : 4 ≤ l.length) : l.take 4 = [l.getD 0 0, l.getD 1 0, l.getD 2 0, l.getD 3 0] := by
  match l, h with
  | a :: b :: c :: d :: r, _ => simp
theorem byteOfD (l : List UInt8) (k : Nat) (x : Int) (h : x = (natL l k : Int)) : x.toNat.toUInt8 = l.getD k 0 := by
  apply UInt8.toNat_inj.1
  subst h
  unfold natL
  simp
set_option maxHeartbeats 4000000 in
/-- What is decoded and encoded again is the character, or what stands for none. -/
theorem enc_dec (l : List UInt8) (h : 0 < l.length) : Lib.encodeRune (decN l).1 = mendC l := by
  have hr := dec_rl l.length (natL l 0) (natL l 1) (natL l 2) (natL l 3) h (natL_lt _ _) (natL_lt _ _) (natL_lt _ _) (natL_lt _ _)
  have e : rl l.length (natL l 0) (natL l 1) (natL l 2) (natL l 3) = rlL l := rfl
  rw [e] at hr
  have hrr := rlL_range l h
  unfold mendC
  by_cases h0 : rlL l = 0
  · have : decN l = (65533, 1) := hr.1 h0
    rw [if_pos h0, this]; exact BR_enc
  · rw [if_neg h0]
    have hdw : (decW l : Int) = rlL l := by unfold decW; rw [if_neg h0]; omega
    have hd := (hr.2 h0).1
    have l0 := natL_lt l 0
    have l1 := natL_lt l 1
    have l2 := natL_lt l 2
    have l3 := natL_lt l 3
    have hdw2 := decW_range l h
    have hR : rlL l = rl l.length (natL l 0) (natL l 1) (natL l 2) (natL l 3) := rfl
    have key : (decW l = 1 ∧ (decN l).1 = natL l 0 ∧ natL l 0 < 128) ∨ (decW l = 2 ∧ 194 ≤ natL l 0 ∧ natL l 0 < 224 ∧ 128 ≤ natL l 1 ∧ natL l 1 ≤ 191 ∧ (decN l).1 = natL l 0 % 32 * 64 + natL l 1 % 64)
        ∨ (decW l = 3 ∧ 224 ≤ natL l 0 ∧ natL l 0 < 240 ∧ (natL l 0 = 224 → 160 ≤ natL l 1) ∧ 128 ≤ natL l 1 ∧ natL l 1 ≤ 191 ∧ (natL l 0 = 237 → natL l 1 ≤ 159) ∧ 128 ≤ natL l 2 ∧ natL l 2 ≤ 191 ∧ (decN l).1 = natL l 0 % 16 * 4096 + natL l 1 % 64 * 64 + natL l 2 % 64)
        ∨ (decW l = 4 ∧ 240 ≤ natL l 0 ∧ natL l 0 ≤ 244 ∧ (natL l 0 = 240 → 144 ≤ natL l 1) ∧ 128 ≤ natL l 1 ∧ natL l 1 ≤ 191 ∧ (natL l 0 = 244 → natL l 1 ≤ 143) ∧ 128 ≤ natL l 2 ∧ natL l 2 ≤ 191 ∧ 128 ≤ natL l 3 ∧ natL l 3 ≤ 191 ∧ (decN l).1 = natL l 0 % 8 * 262144 + natL l 1 % 64 * 4096 + natL l 2 % 64 * 64 + natL l 3 % 64) := by
      have hD : decN l = Go.Lib.decodeN l.length (natL l 0) (natL l 1) (natL l 2) (natL l 3) := rfl
      rw [hD]
      generalize natL l 0 = b0 at *
      generalize natL l 1 = b1 at *
      generalize natL l 2 = b2 at *
      generalize natL l 3 = b3 at *
      generalize l.length = n at *
      generalize decW l = d at *
      by_cases q : b0 < 128
      · have e : Go.Lib.decodeN n b0 b1 b2 b3 = (b0, 1) := by unfold Go.Lib.decodeN; rw [if_pos q]
        have e2 : rl n b0 b1 b2 b3 = 1 := by unfold rl; rw [if_pos (by omega)]
        rw [e]; left; refine ⟨by omega, rfl, q⟩
      by_cases q2 : b0 < 194
      · exfalso; apply h0; rw [hR]; unfold rl; (repeat' split) <;> omega
      by_cases q3 : b0 < 224
      · by_cases v : 2 ≤ n ∧ 128 ≤ b1 ∧ b1 ≤ 191
        · have e : Go.Lib.decodeN n b0 b1 b2 b3 = (b0 % 32 * 64 + b1 % 64, 2) := by unfold Go.Lib.decodeN; (repeat' split) <;> first | with_reducible rfl | (exfalso; omega)
          have e2 : rl n b0 b1 b2 b3 = 2 := by unfold rl; (repeat' split) <;> omega
          rw [e]; right; left
          refine ⟨by omega, by omega, q3, v.2.1, v.2.2, rfl⟩
        · exfalso; apply h0; rw [hR]; unfold rl; (repeat' split) <;> omega
      by_cases q4 : b0 < 240
      · by_cases v : 3 ≤ n ∧ (b0 = 224 → 160 ≤ b1) ∧ 128 ≤ b1 ∧ b1 ≤ 191 ∧ (b0 = 237 → b1 ≤ 159) ∧ 128 ≤ b2 ∧ b2 ≤ 191
        · have e : Go.Lib.decodeN n b0 b1 b2 b3 = (b0 % 16 * 4096 + b1 % 64 * 64 + b2 % 64, 3) := by unfold Go.Lib.decodeN; (repeat' split) <;> first | with_reducible rfl | (exfalso; omega)
          have e2 : rl n b0 b1 b2 b3 = 3 := by unfold rl; (repeat' split) <;> omega
          rw [e]; right; right; left
          refine ⟨by omega, by omega, q4, v.2.1, v.2.2.1, v.2.2.2.1, v.2.2.2.2.1, v.2.2.2.2.2.1, v.2.2.2.2.2.2, rfl⟩
        · exfalso; apply h0; rw [hR]; unfold rl; (repeat' split) <;> omega
      by_cases q5 : b0 ≤ 244
      · by_cases v : 4 ≤ n ∧ (b0 = 240 → 144 ≤ b1) ∧ 128 ≤ b1 ∧ b1 ≤ 191 ∧ (b0 = 244 → b1 ≤ 143) ∧ 128 ≤ b2 ∧ b2 ≤ 191 ∧ 128 ≤ b3 ∧ b3 ≤ 191
        · have e : Go.Lib.decodeN n b0 b1 b2 b3 = (b0 % 8 * 262144 + b1 % 64 * 4096 + b2 % 64 * 64 + b3 % 64, 4) := by unfold Go.Lib.decodeN; (repeat' split) <;> first | with_reducible rfl | (exfalso; omega)
          have e2 : rl n b0 b1 b2 b3 = 4 := by unfold rl; (repeat' split) <;> omega
          rw [e]; right; right; right
          refine ⟨by omega, by omega, q5, v.2.1, v.2.2.1, v.2.2.2.1, v.2.2.2.2.1, v.2.2.2.2.2.1, v.2.2.2.2.2.2.1, v.2.2.2.2.2.2.2.1, v.2.2.2.2.2.2.2.2, rfl⟩
        · exfalso; apply h0; rw [hR]; unfold rl; (repeat' split) <;> omega
      · exfalso; apply h0; rw [hR]; unfold rl; (repeat' split) <;> omega
    unfold Lib.encodeRune
    clear hr hR e hd hdw
    rcases key with ⟨a, b, c⟩ | ⟨a, b, c, d, f, g⟩ | ⟨a, b, c, d, f, g, i, j, k, m⟩ | ⟨a, b, c, d, f, g, i, j, k, m, n, o⟩
    · rw [a, b, Lib.encodeRuneZ_one (by omega) (by omega), takeD1 l (by omega)]
      simp only [List.map_cons, List.map_nil]
      rw [byteOfD l 0 _ rfl]
    · rw [a, g, Lib.encodeRuneZ_two (by omega) (by omega), takeD2 l (by omega)]
      simp only [List.map_cons, List.map_nil]
      rw [byteOfD l 0 _ (by omega), byteOfD l 1 _ (by omega)]
    · rw [a, m, Lib.encodeRuneZ_three (by omega), takeD3 l (by omega)]
      simp only [List.map_cons, List.map_nil]
      rw [byteOfD l 0 _ (by omega), byteOfD l 1 _ (by omega), byteOfD l 2 _ (by omega)]
    · rw [a, o, Lib.encodeRuneZ_four (by omega) (by omega), takeD4 l (by omega)]
      simp only [List.map_cons, List.map_nil]
      rw [byteOfD l 0 _ (by omega), byteOfD l 1 _ (by omega), byteOfD l 2 _ (by omega), byteOfD l 3 _ (by omega)]
/-- Some pieces are read, and some of those only passed so far (they stand for themselves). -/
def WInv (wd : List UInt8 → Nat) (p : List UInt8 → List UInt8) (m : List UInt8) (n i : Nat) (out : List UInt8) : Prop := i ≤ n ∧ n ≤ m.length ∧ runW wd p 0 m = out ++ (m.drop i).take (n - i) ++ runW wd p 0 (m.drop n)
end Go.Proofs.Ytegfdgmbhnfeeaa
