/- The old scanner's machine takes just the texts of the grammar (strings, words, values): in plain words, of no program. -/
import Derived.Test.YtklncgmfbflooaaDoorScanE
namespace Go.Proofs.YtklncgmfbflooaaDoor
open Go.RowKit
theorem hexB_iff (c : Int) : hexB c ↔ 0 ≤ hexv c := by
  unfold hexB hexv
  constructor
  · intro h; (repeat' split) <;> omega
  · intro h
    (repeat' split at h) <;> omega
theorem hexAt_B {l : List UInt8} {k : Nat} (hk : k < l.length) : hexB (atL l k) ↔ 0 ≤ hexAt l k := by unfold hexAt; rw [seeP_at hk]; exact hexB_iff _
/-- One hexadecimal digit. -/
theorem hex_l {l : List UInt8} {g g' : Q} {st : List Int} (hg : ∀ c, stepM g ⟨g, st, false, false⟩ c = if hexB c then (⟨g', st, false, false⟩, 0) else errM ⟨g, st, false, false⟩) (k : Nat) : goM l ⟨g, st, false, false⟩ k = if 0 ≤ hexAt l k then goM l ⟨g', st, false, false⟩ (k + 1) else false := by
  by_cases hk : k < l.length
  · by_cases h : hexB (atL l k)
    · rw [if_pos ((hexAt_B hk).1 h)]
      exact goM_go hk (by rw [show (⟨g, st, false, false⟩ : Cfg).q = g from rfl, hg, if_pos h]) (by decide)
    · rw [if_neg (fun z => h ((hexAt_B hk).2 z))]
      exact goM_no hk (by rw [show (⟨g, st, false, false⟩ : Cfg).q = g from rfl, hg, if_neg h]; rfl)
  · rw [if_neg (fun z => hk (hexAt_ltL z)), goM_end hk]
    have : (stepM g ⟨g, st, false, false⟩ 32).1.top = false := by rw [hg, if_neg (by unfold hexB; omega)]; rfl
    exact this
theorem unit_l (l : List UInt8) (st : List Int) (k : Nat) : goM l ⟨.U, st, false, false⟩ k = if unitAt true false l k then goM l ⟨.IS, st, false, false⟩ (k + 4) else false := by
  rw [hex_l (g' := .U1) (fun c => by simp only [stepM]; rfl), hex_l (g := .U1) (g' := .U12) (fun c => by simp only [stepM]; rfl), hex_l (g := .U12) (g' := .U123) (fun c => by simp only [stepM]; rfl), hex_l (g := .U123) (g' := .IS) (fun c => by simp only [stepM]; rfl)]
  have e : unitAt true false l k ↔ 0 ≤ hexAt l k ∧ 0 ≤ hexAt l (k + 1) ∧ 0 ≤ hexAt l (k + 1 + 1) ∧ 0 ≤ hexAt l (k + 1 + 1 + 1) := by
    unfold unitAt unitOk
    simp
  by_cases a : 0 ≤ hexAt l k
  · rw [if_pos a]
    by_cases b : 0 ≤ hexAt l (k + 1)
    · rw [if_pos b]
      by_cases c : 0 ≤ hexAt l (k + 1 + 1)
      · rw [if_pos c]
        by_cases d : 0 ≤ hexAt l (k + 1 + 1 + 1)
        · rw [if_pos d, if_pos (e.2 ⟨a, b, c, d⟩)]
        · rw [if_neg d, if_neg (fun z => d (e.1 z).2.2.2)]
      · rw [if_neg c, if_neg (fun z => c (e.1 z).2.2.1)]
    · rw [if_neg b, if_neg (fun z => b (e.1 z).2.1)]
  · rw [if_neg a, if_neg (fun z => a (e.1 z).1)]
theorem esc_l (l : List UInt8) (st : List Int) (k : Nat) : goM l ⟨.ISE, st, false, false⟩ k = if escN true l k = 0 then false else goM l ⟨.IS, st, false, false⟩ (escN true l k) := by
  by_cases hk : k < l.length
  · by_cases h8 : esc8 (atL l k)
    · have e : escN true l k = k + 1 := by unfold escN; rw [seeP_at hk, if_pos h8]
      rw [e, if_neg (by omega)]
      exact goM_go hk (by simp only [stepM]; rw [if_pos h8]; rfl) (by decide)
    · by_cases hu : atL l k = 117
      · have e : escN true l k = if unitAt true false l (k + 1) then k + 5 else 0 := by
          unfold escN
          rw [seeP_at hk, if_neg h8, if_pos hu]
          have : halfAt true false l (k + 1) = false := rfl
          rw [this]
          by_cases u : unitAt true false l (k + 1)
          · rw [if_pos u, if_pos u, if_neg (by decide)]
          · rw [if_neg u, if_neg u]
        rw [goM_go hk (s' := ⟨.U, st, false, false⟩) (c := 0) (by simp only [stepM]; rw [if_neg h8, if_pos hu]; rfl) (by decide), unit_l, e]
        by_cases u : unitAt true false l (k + 1)
        · rw [if_pos u, if_pos u, if_neg (by omega)]
        · rw [if_neg u, if_neg u, if_pos rfl]
      · have e : escN true l k = 0 := by unfold escN; rw [seeP_at hk, if_neg h8, if_neg hu]
        rw [e, if_pos rfl]
        exact goM_no hk (by simp only [stepM]; rw [if_neg h8, if_neg hu]; rfl)
  · have e : escN true l k = 0 := by
      have : seeP l k = 0 := by unfold seeP; rw [if_neg hk]
      unfold escN; rw [this, if_neg (by decide), if_neg (by decide)]
    rw [e, if_pos rfl, goM_end hk]; rfl
/-- Within a string, up to the mark at its end. -/
theorem str_l (l : List UInt8) (st : List Int) : ∀ (n k : Nat), l.length ≤ n + k → 1 ≤ k → goM l ⟨.IS, st, false, false⟩ k = if strN true l k = 0 then false else accE l st (strN true l k + 1)
  | 0, k, hn, _ => by
    rw [strN_end (by omega), if_pos rfl, goM_end (by omega)]; rfl
  | n + 1, k, hn, h1 => by
    by_cases hk : k < l.length
    · by_cases h34 : atL l k = 34
      · rw [strN_quote hk h34]
        rw [if_neg (by omega)]
        exact goM_go hk (by simp only [stepM]; rw [if_pos h34]; rfl) (by decide)
      · have hs : stepN true l k = if atL l k = 92 then escN true l (k + 1) else if atL l k < 32 then 0 else k + 1 := by
          unfold stepN
          by_cases a : atL l k = 92
          · rw [if_pos a, if_pos a]
          · rw [if_neg a, if_neg a]
            by_cases b : atL l k < 32
            · rw [if_pos b, if_pos b]
            · rw [if_neg b, if_neg b, if_pos (Or.inr rfl)]
        by_cases a : atL l k = 92
        · rw [if_pos a] at hs
          rw [goM_go hk (s' := ⟨.ISE, st, false, false⟩) (c := 0) (by simp only [stepM]; rw [if_neg h34, if_pos a]; rfl) (by decide), esc_l]
          by_cases z : escN true l (k + 1) = 0
          · rw [if_pos z, strN_fail hk h34 (by rw [hs]; exact z), if_pos rfl]
          · have hr := escN_range z
            rw [if_neg z, strN_step hk h34 (by rw [hs]; exact z), hs]
            exact str_l l st n _ (by omega) (by omega)
        · rw [if_neg a] at hs
          by_cases b : atL l k < 32
          · rw [if_pos b] at hs
            rw [strN_fail hk h34 hs, if_pos rfl]
            exact goM_no hk (by simp only [stepM]; rw [if_neg h34, if_neg a, if_pos b]; rfl)
          · rw [if_neg b] at hs
            rw [strN_step hk h34 (by rw [hs]; omega), hs, ← str_l l st n (k + 1) (by omega) (by omega)]
            exact goM_go hk (by simp only [stepM]; rw [if_neg h34, if_neg a, if_neg b]) (by decide)
    · rw [strN_end hk, if_pos rfl, goM_end hk]; rfl
/-- One byte of a word. -/
theorem one_l {l : List UInt8} {g g' : Q} {x : Int} {st : List Int} (hg : ∀ c, stepM g ⟨g, st, false, false⟩ c = oneM x g' ⟨g, st, false, false⟩ c) (hx : ¬ x = 32) (k : Nat) : goM l ⟨g, st, false, false⟩ k = if k < l.length ∧ atL l k = x then goM l ⟨g', st, false, false⟩ (k + 1) else false := by
  by_cases hk : k < l.length
  · by_cases h : atL l k = x
    · rw [if_pos ⟨hk, h⟩]
      exact goM_go hk (by rw [show (⟨g, st, false, false⟩ : Cfg).q = g from rfl, hg]; unfold oneM; rw [if_pos h]; rfl) (by decide)
    · rw [if_neg (fun z => h z.2)]
      exact goM_no hk (by rw [show (⟨g, st, false, false⟩ : Cfg).q = g from rfl, hg]; unfold oneM; rw [if_neg h]; rfl)
  · rw [if_neg (fun z => hk z.1), goM_end hk]
    have : (stepM g ⟨g, st, false, false⟩ 32).1.top = false := by rw [hg]; unfold oneM; rw [if_neg (fun e => hx e.symm)]; rfl
    exact this
/-- What a text and a word have in common, byte by byte. -/
theorem comm_step (l : List UInt8) (k : Nat) (b : UInt8) (m : List UInt8) : comm (l.drop k) (b :: m) = if k < l.length ∧ atL l k = (b.toNat : Int) then comm (l.drop (k + 1)) m + 1 else 0 := by
  by_cases hk : k < l.length
  · have e : ((l[k]'hk).toNat : Int) = atL l k := by unfold atL; rw [List.getD_eq_getElem?_getD, List.getElem?_eq_getElem hk]; rfl
    rw [List.drop_eq_getElem_cons hk, comm]
    by_cases h : l[k]'hk = b
    · rw [if_pos h, if_pos ⟨hk, by rw [← e, h]⟩]
    · rw [if_neg h, if_neg (fun z => h (UInt8.toNat_inj.1 (by have := z.2; omega)))]
  · rw [List.drop_of_length_le (by omega), if_neg (fun z => hk z.1)]; rfl
theorem comm_nil (l : List UInt8) : comm l [] = 0 := by cases l <;> rfl
theorem word4 (l : List UInt8) (k : Nat) (a b c d : UInt8) (hk : k < l.length ∧ atL l k = (a.toNat : Int)) : wordN l [a, b, c, d] k = if k + 1 < l.length ∧ atL l (k + 1) = (b.toNat : Int) then (if k + 1 + 1 < l.length ∧ atL l (k + 1 + 1) = (c.toNat : Int) then (if k + 1 + 1 + 1 < l.length ∧ atL l (k + 1 + 1 + 1) = (d.toNat : Int) then k + 1 + 1 + 1 + 1 else 0) else 0) else 0 := by
  unfold wordN
  rw [comm_step, if_pos hk, comm_step l (k + 1)]
  by_cases h1 : k + 1 < l.length ∧ atL l (k + 1) = (b.toNat : Int)
  · rw [if_pos h1, if_pos h1, comm_step l (k + 1 + 1)]
    by_cases h2 : k + 1 + 1 < l.length ∧ atL l (k + 1 + 1) = (c.toNat : Int)
    · rw [if_pos h2, if_pos h2, comm_step l (k + 1 + 1 + 1)]
      by_cases h3 : k + 1 + 1 + 1 < l.length ∧ atL l (k + 1 + 1 + 1) = (d.toNat : Int)
      · rw [if_pos h3, if_pos h3, comm_nil, if_pos (by simp)]; simp
      · rw [if_neg h3, if_neg h3, if_neg (by simp)]
    · rw [if_neg h2, if_neg h2, if_neg (by simp)]
  · rw [if_neg h1, if_neg h1, if_neg (by simp)]
theorem word5 (l : List UInt8) (k : Nat) (a b c d e : UInt8) (hk : k < l.length ∧ atL l k = (a.toNat : Int)) : wordN l [a, b, c, d, e] k = if k + 1 < l.length ∧ atL l (k + 1) = (b.toNat : Int) then (if k + 1 + 1 < l.length ∧ atL l (k + 1 + 1) = (c.toNat : Int) then (if k + 1 + 1 + 1 < l.length ∧ atL l (k + 1 + 1 + 1) = (d.toNat : Int) then (if k + 1 + 1 + 1 + 1 < l.length ∧ atL l (k + 1 + 1 + 1 + 1) = (e.toNat : Int) then k + 1 + 1 + 1 + 1 + 1 else 0) else 0) else 0) else 0 := by
  unfold wordN
  rw [comm_step, if_pos hk, comm_step l (k + 1)]
  by_cases h1 : k + 1 < l.length ∧ atL l (k + 1) = (b.toNat : Int)
  · rw [if_pos h1, if_pos h1, comm_step l (k + 1 + 1)]
    by_cases h2 : k + 1 + 1 < l.length ∧ atL l (k + 1 + 1) = (c.toNat : Int)
    · rw [if_pos h2, if_pos h2, comm_step l (k + 1 + 1 + 1)]
      by_cases h3 : k + 1 + 1 + 1 < l.length ∧ atL l (k + 1 + 1 + 1) = (d.toNat : Int)
      · rw [if_pos h3, if_pos h3, comm_step l (k + 1 + 1 + 1 + 1)]
        by_cases h4 : k + 1 + 1 + 1 + 1 < l.length ∧ atL l (k + 1 + 1 + 1 + 1) = (e.toNat : Int)
        · rw [if_pos h4, if_pos h4, comm_nil, if_pos (by simp)]; simp
        · rw [if_neg h4, if_neg h4, if_neg (by simp)]
      · rw [if_neg h3, if_neg h3, if_neg (by simp)]
    · rw [if_neg h2, if_neg h2, if_neg (by simp)]
  · rw [if_neg h1, if_neg h1, if_neg (by simp)]
theorem ite_res {l : List UInt8} {st : List Int} (p : Prop) [Decidable p] (v : Nat) (x : Bool) (h : x = resM l st v) : (if p then x else false) = resM l st (if p then v else 0) := by
  by_cases q : p
  · rw [if_pos q, if_pos q, h]
  · rw [if_neg q, if_neg q]; rfl
theorem true_l (l : List UInt8) (st : List Int) (k : Nat) (hk : k < l.length) (h : atL l k = 116) : goM l ⟨.T, st, false, false⟩ (k + 1) = resM l st (wordN l trueL k) := by
  rw [show trueL = [116, 114, 117, 101] from rfl, word4 l k 116 114 117 101 ⟨hk, h⟩, one_l (g := .T) (g' := .Tr) (x := 114) (fun _ => rfl) (by decide), one_l (g := .Tr) (g' := .Tru) (x := 117) (fun _ => rfl) (by decide), one_l (g := .Tru) (g' := .EV) (x := 101) (fun _ => rfl) (by decide)]
  exact ite_res _ _ _ (ite_res _ _ _ (ite_res _ _ _ (resM_pos (by omega)).symm))
theorem null_l (l : List UInt8) (st : List Int) (k : Nat) (hk : k < l.length) (h : atL l k = 110) : goM l ⟨.N, st, false, false⟩ (k + 1) = resM l st (wordN l nullL k) := by
  rw [show nullL = [110, 117, 108, 108] from rfl, word4 l k 110 117 108 108 ⟨hk, h⟩, one_l (g := .N) (g' := .Nu) (x := 117) (fun _ => rfl) (by decide), one_l (g := .Nu) (g' := .Nul) (x := 108) (fun _ => rfl) (by decide), one_l (g := .Nul) (g' := .EV) (x := 108) (fun _ => rfl) (by decide)]
  exact ite_res _ _ _ (ite_res _ _ _ (ite_res _ _ _ (resM_pos (by omega)).symm))
theorem false_l (l : List UInt8) (st : List Int) (k : Nat) (hk : k < l.length) (h : atL l k = 102) : goM l ⟨.F, st, false, false⟩ (k + 1) = resM l st (wordN l falseL k) := by
  rw [show falseL = [102, 97, 108, 115, 101] from rfl, word5 l k 102 97 108 115 101 ⟨hk, h⟩, one_l (g := .F) (g' := .Fa) (x := 97) (fun _ => rfl) (by decide), one_l (g := .Fa) (g' := .Fal) (x := 108) (fun _ => rfl) (by decide), one_l (g := .Fal) (g' := .Fals) (x := 115) (fun _ => rfl) (by decide), one_l (g := .Fals) (g' := .EV) (x := 101) (fun _ => rfl) (by decide)]
  exact ite_res _ _ _ (ite_res _ _ _ (ite_res _ _ _ (ite_res _ _ _ (resM_pos (by omega)).symm)))
end Go.Proofs.YtklncgmfbflooaaDoor
