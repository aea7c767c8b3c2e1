/- What the reference says of a word at the beginning of a text, walked. -/
import Derived.Test.YtegfdgmbhnfeeaaDoorRdWord
import Derived.Deep.LoopGhost
import Derived.Test.YtegfdgmbhnfeeaaDoorBuf
namespace Go.Proofs.YtegfdgmbhnfeeaaDoor
open Go.RowKit
theorem grown_new {w w' : World} {o : Obj} (h : (w.alloc o).grownBy w' (some w.heap.size)) : Below w.heap.size w w' :=
  ⟨h.os, h.tape, h.output, by have := h.size; simp at this; omega, fun k hk => (h.block k (by simp; omega) (by intro e; have := Option.some.inj e; omega)).trans (alloc_old w o k hk)⟩
def cameHow (ok : Bool) (k n : Nat) : Int := if ok then 0 else if k = n then 1 else 2
def cameAt (ok : Bool) (k : Nat) : Int := if ok then (k : Int) else 0
def CamePost (a b : Int) (w : World) (e : Ending) (w' : World) : Prop := e = .returned (.tuple #[.int .i64 a, .int .i64 b]) ∧ Below w.heap.size w w'
theorem came (ok : Bool) (s : ByteArray) (k : Nat) (f : Int) (w : World) (_hs : s.size ≤ 4000) (hk : k ≤ s.size) :
    Calls Tryd.prog 11 #[.agg #[.string s, .int .i64 k, .bool false, .bool false, .int .i64 f, .bool false], .bool ok] w (CamePost (cameAt ok k) (cameHow ok k s.size) w) := by
  cases ok
  · by_cases h : k = s.size
    · have e1 : cameHow false k s.size = 1 := by unfold cameHow; rw [if_neg (by simp), if_pos h]
      have e2 : cameAt false k = 0 := rfl
      rw [e1, e2]
      clear e1 e2
      subst h
      go_enter Tryd.func11, Tryd.ntmps11
      go_wp2
      go_ret2
      exact ⟨rfl, (Below.refl _ _).alloc (Nat.le_refl _) _⟩
    · have e1 : cameHow false k s.size = 2 := by unfold cameHow; rw [if_neg (by simp), if_neg h]
      have e2 : cameAt false k = 0 := rfl
      rw [e1, e2]
      have h' : ((k : Int) == (s.size : Int)) = false := by simp; omega
      clear e1 e2
      go_enter Tryd.func11, Tryd.ntmps11
      go_wp2
      go_ret2
      exact ⟨rfl, (Below.refl _ _).alloc (Nat.le_refl _) _⟩
  · have e1 : cameHow true k s.size = 0 := rfl
    have e2 : cameAt true k = (k : Int) := rfl
    rw [e1, e2]
    clear e1 e2
    go_enter Tryd.func11, Tryd.ntmps11
    go_wp2
    go_ret2
    exact ⟨rfl, (Below.refl _ _).alloc (Nat.le_refl _) _⟩
set_option maxRecDepth 100000 in
theorem wordHead (s m : ByteArray) (k : Nat) (w : World) (hs : s.size ≤ 4000) (hm : m.size ≤ 4000) (hd : Hid (Parts s.data.toList m.data.toList k)) :
    Calls Tryd.prog 6 #[.string s, .string m] w (CamePost (cameAt (decide (k = m.size)) k) (cameHow (decide (k = m.size)) k s.size) w) := by
  have hR : RdAt (w.alloc (Obj.cells #[.string s, .int .i64 0, .bool false, .bool false, .int .i64 0, .bool false] 39)) w.heap.size s 0 false false 0 false := by
    refine ⟨?_, ?_, ?_, ?_, ?_, ?_, ?_, ?_⟩
    all_goals simp
  have hks : k ≤ s.size := by have := hd.out.1; rw [size_list] at this; exact this
  have hwd := word w.heap.size s m k _ hR hs hm hd
  generalize decide (k = m.size) = ok at hwd ⊢
  have hcm := fun f W => came ok s k f W hs hks
  generalize cameHow ok k s.size = how at hcm ⊢
  generalize cameAt ok k = at' at hcm ⊢
  have HW := Lib.hid hwd
  clear hwd hR
  go_enter Tryd.func6, Tryd.ntmps6
  go_wp2_with fail
  refine HW.out.mono ?_
  rintro e w' ⟨rfl, ⟨f, h1⟩, h2⟩
  have c0 := h1.c0
  have c1 := h1.c1
  have c2 := h1.c2
  have c3 := h1.c3
  have c4 := h1.c4
  have c5 := h1.c5
  have HG := Lib.hid (grown_new h2)
  clear h1 h2 HW
  go_wp2_with fail
  refine (hcm f _).mono ?_
  rintro e w2 ⟨rfl, hb⟩
  have HB := Lib.hid hb
  clear hb hcm
  go_wp2
  go_ret2
  exact ⟨rfl, HG.out.trans (HB.out.mono HG.out.size)⟩
end Go.Proofs.YtegfdgmbhnfeeaaDoor
