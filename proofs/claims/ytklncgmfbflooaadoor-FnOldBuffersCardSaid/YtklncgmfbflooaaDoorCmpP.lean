/- What Compact and Indent append, in plain words of no program: round by round beside the scanner's machine. -/
import Derived.Test.YtklncgmfbflooaaDoorScanV
namespace Go.Proofs.YtklncgmfbflooaaDoor
open Go.RowKit
/-- The scanner's machine at its beginning. -/
def cBeg : Cfg := ⟨.BV, [], false, false⟩
def uni3 (c : Int) : List UInt8 := if c = 60 then [92, 117, 48, 48, 51, 99] else if c = 62 then [92, 117, 48, 48, 51, 101] else [92, 117, 48, 48, 50, 54]
def cutL (l : List UInt8) (st k : Nat) : List UInt8 := if st < k then (l.drop st).take (k - st) else []
/-- One of the three characters of HTML is escaped. -/
def ph1 (esc : Bool) (l : List UInt8) (k : Nat) (x : Nat × List UInt8) : Nat × List UInt8 :=
  if esc = true ∧ (atL l k = 60 ∨ atL l k = 62 ∨ atL l k = 38) then (k + 1, x.2 ++ cutL l x.1 k ++ uni3 (atL l k)) else x
/-- One of the two characters of scripts is. -/
def ph2 (esc : Bool) (l : List UInt8) (k : Nat) (x : Nat × List UInt8) : Nat × List UInt8 :=
  if esc = true ∧ atL l k = 226 ∧ k + 2 < l.length ∧ atL l (k + 1) = 128 ∧ (atL l (k + 2) = 168 ∨ atL l (k + 2) = 169) then (k + 3, x.2 ++ cutL l x.1 k ++ [92, 117, 50, 48, 50, if atL l (k + 2) = 168 then 56 else 57]) else x
/-- White space is left out. -/
def ph3 (code : Int) (l : List UInt8) (k : Nat) (x : Nat × List UInt8) : Nat × List UInt8 := if 9 ≤ code then (k + 1, x.2 ++ cutL l x.1 k) else x
/-- The machine, where what is still to be copied begins, and what has been appended, behind some rounds. -/
def cSt (esc : Bool) (l : List UInt8) : Nat → Cfg × Nat × List UInt8
  | 0 => (cBeg, 0, [])
  | k + 1 => ((stepM (cSt esc l k).1.q (cSt esc l k).1 (atL l k)).1, ph3 (stepM (cSt esc l k).1.q (cSt esc l k).1 (atL l k)).2 l k (ph2 esc l k (ph1 esc l k (cSt esc l k).2)))
def tailL (l : List UInt8) (st : Nat) : List UInt8 := if st < l.length then l.drop st else []
/-- What Compact appends. -/
def compL (esc : Bool) (l : List UInt8) : List UInt8 := (cSt esc l l.length).2.2 ++ tailL l (cSt esc l l.length).2.1
theorem cutL_len (l : List UInt8) (st k : Nat) : (cutL l st k).length ≤ k - st := by
  unfold cutL
  split
  · rw [List.length_take]; omega
  · simp
theorem uni3_len (c : Int) : (uni3 c).length = 6 := by unfold uni3; (repeat' split) <;> rfl
/-- A bound of a pair: what is appended and what is still to be copied. -/
def bndX (l : List UInt8) (k b : Nat) (x : Nat × List UInt8) : Prop := x.2.length + (k - x.1) ≤ b ∧ x.1 ≤ l.length
theorem ph1_bnd {esc : Bool} {l : List UInt8} {k b : Nat} {x : Nat × List UInt8} (hk : k < l.length) (h : bndX l k b x) : bndX l k (b + 6) (ph1 esc l k x) := by
  obtain ⟨h1, h2⟩ := h
  unfold ph1
  split
  · refine ⟨?_, by show k + 1 ≤ _; omega⟩
    have := cutL_len l x.1 k
    show (x.2 ++ cutL l x.1 k ++ uni3 (atL l k)).length + (k - (k + 1)) ≤ _
    rw [List.length_append, List.length_append, uni3_len]; omega
  · exact ⟨by omega, h2⟩
theorem ph2_bnd {esc : Bool} {l : List UInt8} {k b : Nat} {x : Nat × List UInt8} (h : bndX l k b x) : bndX l k (b + 6) (ph2 esc l k x) := by
  obtain ⟨h1, h2⟩ := h
  unfold ph2
  split
  · rename_i q
    refine ⟨?_, by show k + 3 ≤ _; omega⟩
    have := cutL_len l x.1 k
    show (x.2 ++ cutL l x.1 k ++ _).length + (k - (k + 3)) ≤ _
    rw [List.length_append, List.length_append]; simp only [List.length_cons, List.length_nil]; omega
  · exact ⟨by omega, h2⟩
theorem ph3_bnd {code : Int} {l : List UInt8} {k b : Nat} {x : Nat × List UInt8} (hk : k < l.length) (h : bndX l k b x) : bndX l (k + 1) (b + 1) (ph3 code l k x) := by
  obtain ⟨h1, h2⟩ := h
  unfold ph3
  split
  · refine ⟨?_, by show k + 1 ≤ _; omega⟩
    have := cutL_len l x.1 k
    show (x.2 ++ cutL l x.1 k).length + (k + 1 - (k + 1)) ≤ _
    rw [List.length_append]; omega
  · exact ⟨by omega, h2⟩
theorem cSt_bnd (esc : Bool) (l : List UInt8) : ∀ k, k ≤ l.length → bndX l k (13 * k) (cSt esc l k).2
  | 0, _ => ⟨by simp [cSt], Nat.zero_le _⟩
  | k + 1, h => by
    have := ph3_bnd (code := (stepM (cSt esc l k).1.q (cSt esc l k).1 (atL l k)).2) (l := l) (k := k) (by omega) (ph2_bnd (esc := esc) (ph1_bnd (esc := esc) (by omega) (cSt_bnd esc l k (by omega))))
    rw [show 13 * (k + 1) = 13 * k + 6 + 6 + 1 by omega]
    exact this
theorem compL_len (esc : Bool) (l : List UInt8) : (compL esc l).length ≤ 13 * l.length + l.length := by
  have := cSt_bnd esc l l.length (Nat.le_refl _)
  unfold compL tailL
  rw [List.length_append]
  have h1 := this.1
  split
  · rw [List.length_drop]; omega
  · simp; omega
/-- A new line, laid in by a depth. -/
def nlL (pre ind : List UInt8) (d : Int) : List UInt8 := 10 :: (pre ++ (List.replicate d.toNat ind).flatten)
structure ISt where
  need : Bool
  depth : Int
  out : List UInt8
/-- The depth is taken up where something begins inside. -/
def ip1 (pre ind : List UInt8) (code : Int) (x : ISt) : ISt := if x.need = true ∧ ¬ code = 5 ∧ ¬ code = 8 then ⟨false, x.depth + 1, x.out ++ nlL pre ind (x.depth + 1)⟩ else x
def ip2 (pre ind : List UInt8) (code : Int) (c : UInt8) (x : ISt) : ISt :=
  if code = 0 then { x with out := x.out ++ [c] }
  else if c = 123 ∨ c = 91 then ⟨true, x.depth, x.out ++ [c]⟩
  else if c = 44 then { x with out := x.out ++ [c] ++ nlL pre ind x.depth }
  else if c = 58 then { x with out := x.out ++ [c, 32] }
  else if c = 125 ∨ c = 93 then (if x.need = true then ⟨false, x.depth, x.out ++ [c]⟩ else ⟨x.need, x.depth - 1, x.out ++ nlL pre ind (x.depth - 1) ++ [c]⟩)
  else { x with out := x.out ++ [c] }
def iR (pre ind : List UInt8) (code : Int) (c : UInt8) (x : ISt) : ISt := if code = 9 then x else ip2 pre ind code c (ip1 pre ind code x)
def iSt (pre ind l : List UInt8) : Nat → Cfg × ISt
  | 0 => (cBeg, ⟨false, 0, []⟩)
  | k + 1 => ((stepM (iSt pre ind l k).1.q (iSt pre ind l k).1 (atL l k)).1, iR pre ind (stepM (iSt pre ind l k).1.q (iSt pre ind l k).1 (atL l k)).2 (l.getD k 0) (iSt pre ind l k).2)
def indL (pre ind l : List UInt8) : List UInt8 := (iSt pre ind l l.length).2.out
theorem nlL_len (pre ind : List UInt8) (d : Int) (K : Nat) (hd : d ≤ K) (hp : pre.length ≤ 16) (hi : ind.length ≤ 16) : (nlL pre ind d).length ≤ 17 + 16 * K := by
  unfold nlL
  rw [List.length_cons, List.length_append, List.length_flatten]
  simp only [List.map_replicate, List.sum_replicate_nat]
  have : d.toNat * ind.length ≤ K * 16 := Nat.mul_le_mul (by omega) hi
  omega
def ibX (k b : Nat) (x : ISt) : Prop := -(k : Int) ≤ x.depth ∧ x.depth ≤ k ∧ x.out.length ≤ b
theorem ip1_bnd {pre ind : List UInt8} {code : Int} {k b : Nat} {x : ISt} (hp : pre.length ≤ 16) (hi : ind.length ≤ 16) (h : ibX k b x) : ibX (k + 1) (b + (17 + 16 * (k + 1))) (ip1 pre ind code x) := by
  obtain ⟨h1, h2, h3⟩ := h
  unfold ip1
  split
  · have := nlL_len pre ind (x.depth + 1) (k + 1) (by omega) hp hi
    refine ⟨by show _ ≤ x.depth + 1; omega, by show x.depth + 1 ≤ _; omega, ?_⟩
    show (x.out ++ _).length ≤ _
    rw [List.length_append]; omega
  · exact ⟨by omega, by omega, by omega⟩
theorem ip2_bnd {pre ind : List UInt8} {code : Int} {c : UInt8} {k b : Nat} {x : ISt} (hp : pre.length ≤ 16) (hi : ind.length ≤ 16) (h : ibX k b x) : ibX (k + 1) (b + (18 + 16 * k)) (ip2 pre ind code c x) := by
  obtain ⟨h1, h2, h3⟩ := h
  have n1 := nlL_len pre ind x.depth k h2 hp hi
  have n2 := nlL_len pre ind (x.depth - 1) k (by omega) hp hi
  unfold ip2
  (repeat' split) <;> refine ⟨?_, ?_, ?_⟩ <;> simp only [List.length_append, List.length_cons, List.length_nil] <;> omega
theorem iSt_bnd (pre ind l : List UInt8) (hp : pre.length ≤ 16) (hi : ind.length ≤ 16) : ∀ k, ibX (2 * k) (k * (100 + 64 * k)) (iSt pre ind l k).2
  | 0 => ⟨by simp [iSt], by simp [iSt], by simp [iSt]⟩
  | k + 1 => by
    have ih := iSt_bnd pre ind l hp hi k
    have h2 := ip2_bnd (code := (stepM (iSt pre ind l k).1.q (iSt pre ind l k).1 (atL l k)).2) (c := l.getD k 0) hp hi (ip1_bnd (code := (stepM (iSt pre ind l k).1.q (iSt pre ind l k).1 (atL l k)).2) hp hi ih)
    have e : (k + 1) * (100 + 64 * (k + 1)) = k * (100 + 64 * k) + 64 * k + 100 + 64 * (k + 1) := by
      rw [show 100 + 64 * (k + 1) = (100 + 64 * k) + 64 by omega, Nat.add_mul, Nat.mul_add k, Nat.one_mul]
      generalize k * (100 + 64 * k) = z
      omega
    rw [e]
    generalize k * (100 + 64 * k) = z at *
    show ibX (2 * (k + 1)) _ (iR pre ind _ _ _)
    unfold iR
    split
    · obtain ⟨h1, h2, h3⟩ := ih
      exact ⟨by omega, by omega, by omega⟩
    · obtain ⟨h1, h2, h3⟩ := h2
      exact ⟨by omega, by omega, by omega⟩
end Go.Proofs.YtklncgmfbflooaaDoor
