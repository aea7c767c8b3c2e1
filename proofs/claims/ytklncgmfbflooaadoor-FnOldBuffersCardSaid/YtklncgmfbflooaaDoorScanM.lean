/- The old scanner as a machine in plain words, of no program: what each state does with a byte, and that it takes just the texts of the grammar. -/
import Derived.Test.YtklncgmfbflooaaDoorRdGram
namespace Go.Proofs.YtklncgmfbflooaaDoor
open Go.RowKit
/-- The scanner's states. -/
inductive Q where
  | BV | BVE | BSE | BS | EV | ET | IS | ISE | U | U1 | U12 | U123 | Neg | S1 | S0 | Dot | Dot0 | E | ESign | E0 | T | Tr | Tru | F | Fa | Fal | Fals | N | Nu | Nul | Err
/-- What a scanner is at: its next step, its stack (the top first), whether the value has ended, whether it has failed. -/
structure Cfg where
  q : Q
  st : List Int
  top : Bool
  er : Bool
def Cfg.to (s : Cfg) (q : Q) : Cfg := { s with q := q }
def Cfg.fault (s : Cfg) : Cfg := { s with q := .Err, er := true }
def errM (s : Cfg) : Cfg × Int := (s.fault, 11)
def endTopM (s : Cfg) (c : Int) : Cfg × Int := if isSp c then (s, 10) else (s.fault, 10)
def popM (s : Cfg) : Cfg := match s.st with
  | _ :: p :: r => { s with st := p :: r, q := .EV }
  | _ => { s with st := [], q := .ET, top := true }
def endValM (s : Cfg) (c : Int) : Cfg × Int := match s.st with
  | [] => endTopM { s with q := .ET, top := true } c
  | ps :: r => if isSp c then (s.to .EV, 9)
    else if ps = 0 then (if c = 58 then ({ s with q := .BV, st := 1 :: r }, 3) else errM s)
    else if ps = 1 then (if c = 44 then ({ s with q := .BS, st := 0 :: r }, 4) else if c = 125 then (popM s, 5) else errM s)
    else (if c = 44 then (s.to .BV, 7) else if c = 93 then (popM s, 8) else errM s)
def digB (c : Int) : Prop := 48 ≤ c ∧ c ≤ 57
instance (c : Int) : Decidable (digB c) := by unfold digB; infer_instance
def hexB (c : Int) : Prop := (48 ≤ c ∧ c ≤ 57) ∨ (97 ≤ c ∧ c ≤ 102) ∨ (65 ≤ c ∧ c ≤ 70)
instance (c : Int) : Decidable (hexB c) := by unfold hexB; infer_instance
def bvM (s : Cfg) (c : Int) : Cfg × Int :=
  if isSp c then (s, 9)
  else if c = 123 then ({ s with q := .BSE, st := 0 :: s.st }, 2)
  else if c = 91 then ({ s with q := .BVE, st := 2 :: s.st }, 6)
  else if c = 34 then (s.to .IS, 1)
  else if c = 45 then (s.to .Neg, 1)
  else if c = 48 then (s.to .S0, 1)
  else if c = 116 then (s.to .T, 1)
  else if c = 102 then (s.to .F, 1)
  else if c = 110 then (s.to .N, 1)
  else if 49 ≤ c ∧ c ≤ 57 then (s.to .S1, 1)
  else errM s
def bsM (s : Cfg) (c : Int) : Cfg × Int := if isSp c then (s, 9) else if c = 34 then (s.to .IS, 1) else errM s
def bseM (s : Cfg) (c : Int) : Cfg × Int :=
  if isSp c then (s, 9) else if c = 125 then endValM { s with st := 1 :: s.st.tail } c else bsM s c
def bveM (s : Cfg) (c : Int) : Cfg × Int := if isSp c then (s, 9) else if c = 93 then endValM s c else bvM s c
def s0M (s : Cfg) (c : Int) : Cfg × Int := if c = 46 then (s.to .Dot, 0) else if c = 101 ∨ c = 69 then (s.to .E, 0) else endValM s c
def s1M (s : Cfg) (c : Int) : Cfg × Int := if digB c then (s.to .S1, 0) else s0M s c
def esM (s : Cfg) (c : Int) : Cfg × Int := if digB c then (s.to .E0, 0) else errM s
/-- A state that goes on with one byte alone. -/
def oneM (x : Int) (q : Q) (s : Cfg) (c : Int) : Cfg × Int := if c = x then (s.to q, 0) else errM s
def stepM (g : Q) (s : Cfg) (c : Int) : Cfg × Int := match g with
  | .BV => bvM s c
  | .BVE => bveM s c
  | .BSE => bseM s c
  | .BS => bsM s c
  | .EV => endValM s c
  | .ET => endTopM s c
  | .IS => if c = 34 then (s.to .EV, 0) else if c = 92 then (s.to .ISE, 0) else if c < 32 then errM s else (s, 0)
  | .ISE => if esc8 c then (s.to .IS, 0) else if c = 117 then (s.to .U, 0) else errM s
  | .U => if hexB c then (s.to .U1, 0) else errM s
  | .U1 => if hexB c then (s.to .U12, 0) else errM s
  | .U12 => if hexB c then (s.to .U123, 0) else errM s
  | .U123 => if hexB c then (s.to .IS, 0) else errM s
  | .Neg => if c = 48 then (s.to .S0, 0) else if 49 ≤ c ∧ c ≤ 57 then (s.to .S1, 0) else errM s
  | .S1 => s1M s c
  | .S0 => s0M s c
  | .Dot => if digB c then (s.to .Dot0, 0) else errM s
  | .Dot0 => if digB c then (s, 0) else if c = 101 ∨ c = 69 then (s.to .E, 0) else endValM s c
  | .E => if c = 43 ∨ c = 45 then (s.to .ESign, 0) else esM s c
  | .ESign => esM s c
  | .E0 => if digB c then (s, 0) else endValM s c
  | .T => oneM 114 .Tr s c
  | .Tr => oneM 117 .Tru s c
  | .Tru => oneM 101 .EV s c
  | .F => oneM 97 .Fa s c
  | .Fa => oneM 108 .Fal s c
  | .Fal => oneM 115 .Fals s c
  | .Fals => oneM 101 .EV s c
  | .N => oneM 117 .Nu s c
  | .Nu => oneM 108 .Nul s c
  | .Nul => oneM 108 .EV s c
  | .Err => (s, 11)
/-- What is told at the end of a text. -/
def eofM (s : Cfg) : Bool := if s.er = true then false else if s.top = true then true else (stepM s.q s 32).1.top
def accM (s : Cfg) : List UInt8 → Bool
  | [] => eofM s
  | c :: r => if (stepM s.q s (c.toNat : Int)).2 = 11 then false else accM (stepM s.q s (c.toNat : Int)).1 r
/-- .. from a place of a text on. -/
def goM (l : List UInt8) (s : Cfg) (k : Nat) : Bool := accM s (l.drop k)
theorem goM_at {l : List UInt8} {s : Cfg} {k : Nat} (h : k < l.length) : goM l s k = if (stepM s.q s (atL l k)).2 = 11 then false else goM l (stepM s.q s (atL l k)).1 (k + 1) := by
  have e : ((l[k]'h).toNat : Int) = atL l k := by unfold atL; rw [List.getD_eq_getElem?_getD, List.getElem?_eq_getElem h]; rfl
  unfold goM
  rw [List.drop_eq_getElem_cons h, accM, e]
theorem goM_end {l : List UInt8} {s : Cfg} {k : Nat} (h : ¬ k < l.length) : goM l s k = eofM s := by
  unfold goM
  rw [List.drop_of_length_le (by omega), accM]
theorem goM_go {l : List UInt8} {s : Cfg} {k : Nat} (h : k < l.length) {s' : Cfg} {c : Int} (e : stepM s.q s (atL l k) = (s', c)) (hc : ¬ c = 11) : goM l s k = goM l s' (k + 1) := by
  rw [goM_at h, e, if_neg hc]
theorem goM_no {l : List UInt8} {s : Cfg} {k : Nat} (h : k < l.length) {s' : Cfg} (e : stepM s.q s (atL l k) = (s', 11)) : goM l s k = false := by
  rw [goM_at h, e, if_pos rfl]
/-- A faulty scanner takes nothing. -/
theorem goM_err (l : List UInt8) (st : List Int) (top : Bool) (k : Nat) : goM l ⟨.Err, st, top, true⟩ k = false := by
  by_cases h : k < l.length
  · exact goM_no h rfl
  · rw [goM_end h]; rfl
theorem seeP_at {l : List UInt8} {k : Nat} (h : k < l.length) : seeP l k = atL l k := by unfold seeP; rw [if_pos h]
/-- White space is passed where a state stays. -/
theorem goM_sp {l : List UInt8} {q : Q} {st : List Int} (hq : ∀ c, isSp c → (stepM q ⟨q, st, false, false⟩ c) = (⟨q, st, false, false⟩, 9)) : ∀ (n k : Nat), l.length ≤ n + k → goM l ⟨q, st, false, false⟩ k = goM l ⟨q, st, false, false⟩ (spN l k)
  | 0, k, hn => by rw [show spN l k = k from skN_at (fun z => by have := z.1; omega)]
  | n + 1, k, hn => by
    by_cases h : k < l.length ∧ decide (isSp (atL l k)) = true
    · have e : spN l k = spN l (k + 1) := skN_step h.1 h.2
      rw [e, ← goM_sp hq n (k + 1) (by omega)]
      exact goM_go h.1 (hq _ (by simpa using h.2)) (by decide)
    · rw [show spN l k = k from skN_at h]
theorem not_isSp {l : List UInt8} : ∀ (n k : Nat), l.length ≤ n + k → spN l k < l.length → ¬ isSp (atL l (spN l k))
  | 0, k, hn, h => by
    have e : spN l k = k := skN_at (fun z => by have := z.1; omega)
    rw [e] at h; omega
  | n + 1, k, hn, h => by
    by_cases q : k < l.length ∧ decide (isSp (atL l k)) = true
    · have e : spN l k = spN l (k + 1) := skN_step q.1 q.2
      rw [e] at h ⊢
      exact not_isSp n (k + 1) (by omega) h
    · have e : spN l k = k := skN_at q
      rw [e] at h ⊢
      exact fun z => q ⟨h, by simpa using z⟩
end Go.Proofs.YtklncgmfbflooaaDoor
