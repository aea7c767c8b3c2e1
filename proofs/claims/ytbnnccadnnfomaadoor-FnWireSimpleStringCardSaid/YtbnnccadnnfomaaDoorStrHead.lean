/- What the reference says of a string at the beginning of a text, walked. -/
import Derived.Test.YtbnnccadnnfomaaDoorRdQuoted
import Derived.Test.YtbnnccadnnfomaaDoorClose
namespace Go.Proofs.YtbnnccadnnfomaaDoor
open Go.RowKit
theorem grown_new {w w' : World} {o : Obj} (h : (w.alloc o).grownBy w' (some w.heap.size)) : Below w.heap.size w w' :=
  ⟨h.os, h.tape, h.output, by have := h.size; simp at this; omega, fun k hk => (h.block k (by simp; omega) (by intro e; have := Option.some.inj e; omega)).trans (by show (w.heap.push o)[k]? = _; rw [Array.getElem?_push, if_neg (Nat.ne_of_lt hk)])⟩
def cameHow (ok : Bool) (k n : Nat) : Int := if ok then 0 else if k = n then 1 else 2
def cameAt (ok : Bool) (k : Nat) : Int := if ok then (k : Int) else 0
def CamePost (a b : Int) (w : World) (e : Ending) (w' : World) : Prop := e = .returned (.tuple #[.int .i64 a, .int .i64 b]) ∧ Below w.heap.size w w'
theorem came (ok : Bool) (s : ByteArray) (k : Nat) (tw lo : Bool) (f : Int) (op : Bool) (w : World) (_hs : s.size ≤ 140737488355328) (hk : k ≤ s.size) :
    Calls Tryd.prog 10 #[.agg #[.string s, .int .i64 k, .bool tw, .bool lo, .int .i64 f, .bool op], .bool ok] w (CamePost (cameAt ok k) (cameHow ok k s.size) w) := by
  cases ok
  · by_cases h : k = s.size
    · have e1 : cameHow false k s.size = 1 := by unfold cameHow; rw [if_neg (by simp), if_pos h]
      have e2 : cameAt false k = 0 := rfl
      rw [e1, e2]
      clear e1 e2
      subst h
      go_enter Tryd.func10, Tryd.ntmps10
      go_wp2
      go_ret2
      exact ⟨rfl, (Below.refl _ _).alloc (Nat.le_refl _) _⟩
    · have e1 : cameHow false k s.size = 2 := by unfold cameHow; rw [if_neg (by simp), if_neg h]
      have e2 : cameAt false k = 0 := rfl
      rw [e1, e2]
      have h' : ((k : Int) == (s.size : Int)) = false := by simp; omega
      clear e1 e2
      go_enter Tryd.func10, Tryd.ntmps10
      go_wp2
      go_ret2
      exact ⟨rfl, (Below.refl _ _).alloc (Nat.le_refl _) _⟩
  · have e1 : cameHow true k s.size = 0 := rfl
    have e2 : cameAt true k = (k : Int) := rfl
    rw [e1, e2]
    clear e1 e2
    go_enter Tryd.func10, Tryd.ntmps10
    go_wp2
    go_ret2
    exact ⟨rfl, (Below.refl _ _).alloc (Nat.le_refl _) _⟩
/-- A string stands there, up to the mark at q: its bytes and 'fine'; else something else. -/
def HeadPost (q : Nat) (w : World) (e : Ending) (w' : World) : Prop :=
  ∃ a b : Int, e = .returned (.tuple #[.int .i64 a, .int .i64 b]) ∧ (¬ q = 0 → a = (q : Int) + 1 ∧ b = 0) ∧ (q = 0 → ¬ b = 0) ∧ Below w.heap.size w w'
set_option maxRecDepth 100000 in
theorem stringHead (s : ByteArray) (st : Bool) (w : World) (hs : s.size ≤ 140737488355328) :
    Calls Tryd.prog 8 #[.string s, .bool st] w (HeadPost (strQ (!st) s.data.toList 0) w) := by
  have hR : RdAt (w.alloc (Obj.cells #[.string s, .int .i64 0, .bool false, .bool (!st), .int .i64 0, .bool false] 36)) w.heap.size s 0 false (!st) 0 false := by
    refine ⟨?_, ?_, ?_, ?_, ?_, ?_, ?_, ?_⟩
    all_goals simp
  have hq := quotedS w.heap.size s 0 false (!st) 0 false _ hR hs (Nat.zero_le _)
  have hr : ¬ strQ (!st) s.data.toList 0 = 0 → strQ (!st) s.data.toList 0 < s.size := fun q => by have := (strQ_range q).2.2.1; rwa [size_list] at this
  generalize strQ (!st) s.data.toList 0 = q at hq hr
  have HQ := Lib.hid hq
  clear hq hR
  cases st
  all_goals (
    first | simp only [Bool.not_true] at HQ | simp only [Bool.not_false] at HQ
    go_enter Tryd.func8, Tryd.ntmps8
    go_wp2_with fail
    refine HQ.out.mono ?_
    rintro e w1 (⟨ok, rfl, h1, g1⟩ | ⟨ok, rfl, ⟨k2, f2, le2, hk2, n2, h1⟩, g1⟩)
    · have hlt := hr ok
      have c0 := h1.c0
      have c1 := h1.c1
      have c2 := h1.c2
      have c3 := h1.c3
      have c4 := h1.c4
      have c5 := h1.c5
      have f1 := h1.fz 1
      have HG := Lib.hid (grown_new g1)
      have e1 : Hid (((q : Int) + 1) = ((q + 1 : Nat) : Int)) := Lib.hid (by omega)
      clear h1 g1 HQ
      go_wp2_with fail
      rw [e1.out]
      refine (came true s (q + 1) false _ _ false _ hs (by omega)).mono ?_
      rintro e w2 ⟨rfl, hb⟩
      have HB := Lib.hid hb
      clear hb
      go_wp2
      go_ret2
      refine ⟨_, _, rfl, fun _ => ⟨by show ((q + 1 : Nat) : Int) = _; omega, rfl⟩, fun z => absurd z ok, ?_⟩
      exact (HG.out.setCell (p := ⟨w.heap.size, 1, none⟩) (Nat.le_refl _) _).trans (HB.out.mono (by simp [World.setCell]; exact HG.out.size))
    · have c0 := h1.c0
      have c1 := h1.c1
      have c2 := h1.c2
      have c3 := h1.c3
      have c4 := h1.c4
      have c5 := h1.c5
      have HG := Lib.hid (grown_new g1)
      clear h1 g1 HQ
      go_wp2_with fail
      refine (came false s k2 false _ _ false _ hs hk2).mono ?_
      rintro e w2 ⟨rfl, hb⟩
      have HB := Lib.hid hb
      clear hb
      go_wp2
      go_ret2
      refine ⟨_, _, rfl, fun z => absurd z ok, fun _ => ?_, HG.out.trans (HB.out.mono HG.out.size)⟩
      show ¬ cameHow false k2 s.size = 0
      unfold cameHow; rw [if_neg (by simp)]; split <;> decide)
end Go.Proofs.YtbnnccadnnfomaaDoor
