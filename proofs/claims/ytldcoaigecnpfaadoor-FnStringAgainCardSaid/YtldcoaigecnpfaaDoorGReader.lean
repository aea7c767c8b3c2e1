/- The reference's reader, its small parts walked: fail, see, need, Hex, hex. Only the reader's own block is written. -/
import Derived.Test.YtldcoaigecnpfaaDoorGClose
import Derived.Test.YtldcoaigecnpfaaDoorProg
import Derived.WalkLawsBesides
import Derived.WalkSpells
import Derived.BigQuiet
import Derived.BigRegion
import Derived.Deep.QuietTactic
import Derived.Lib.Hide
import Derived.Deep.DeepFit
import Derived.Outline
namespace Go.Proofs.YtldcoaigecnpfaaDoor
open Go.RowKit
/-- A reader in block R: its text, its place, its rules, its fault, whether it leaves something open. -/
structure RdAt (w : World) (R : Nat) (s : ByteArray) (k : Nat) (tw lo : Bool) (f : Int) (op : Bool) : Prop where
  c0 : w.cell? ⟨R, 0, none⟩ = some (.string s)
  c1 : w.cell? ⟨R, 1, none⟩ = some (.int .i64 k)
  c2 : w.cell? ⟨R, 2, none⟩ = some (.bool tw)
  c3 : w.cell? ⟨R, 3, none⟩ = some (.bool lo)
  c4 : w.cell? ⟨R, 4, none⟩ = some (.int .i64 f)
  c5 : w.cell? ⟨R, 5, none⟩ = some (.bool op)
  fz : ∀ j, w.frozen? ⟨R, j, none⟩ = false
  lt : R < w.heap.size
theorem grown_refl (w : World) (R : Nat) : w.grownBy w (some R) := ⟨rfl, rfl, rfl, Nat.le_refl _, fun _ _ _ => rfl⟩
theorem grown_trans {a b c : World} {R : Nat} (h : a.grownBy b (some R)) (k : b.grownBy c (some R)) : a.grownBy c (some R) :=
  ⟨k.os.trans h.os, k.tape.trans h.tape, k.output.trans h.output, Nat.le_trans h.size k.size, fun i hi hne => (k.block i (Nat.lt_of_lt_of_le hi h.size) hne).trans (h.block i hi hne)⟩
theorem grown_drewN {a b : World} {R : Nat} (h : a.grownBy b (some R)) (n : Nat) : a.grownBy (b.drewN n) (some R) := ⟨h.os, h.tape, h.output, h.size, h.block⟩
theorem grown_set {a b : World} {R : Nat} (h : a.grownBy b (some R)) (j : Nat) (v : Value) : a.grownBy (b.setCell ⟨R, j, none⟩ v) (some R) :=
  ⟨h.os, h.tape, h.output, by simpa [World.setCell] using h.size, fun i hi hne => (Below.heap_setCell _ _ _ _ (by intro e; subst e; exact hne rfl)).trans (h.block i hi hne)⟩
theorem RdAt.drewN {w : World} {R : Nat} {s : ByteArray} {k : Nat} {tw lo : Bool} {f : Int} {op : Bool} (h : RdAt w R s k tw lo f op) (n : Nat) : RdAt (w.drewN n) R s k tw lo f op := ⟨h.c0, h.c1, h.c2, h.c3, h.c4, h.c5, h.fz, h.lt⟩
theorem RdAt.setAt {w : World} {R : Nat} {s : ByteArray} {k : Nat} {tw lo : Bool} {f : Int} {op : Bool} (h : RdAt w R s k tw lo f op) (k' : Nat) : RdAt (w.setCell ⟨R, 1, none⟩ (.int .i64 k')) R s k' tw lo f op :=
  ⟨(World.cell?_setCell_other _ _ _ _ (by simp)).trans h.c0, World.cell?_setCell_same _ _ _ h.c1, (World.cell?_setCell_other _ _ _ _ (by simp)).trans h.c2, (World.cell?_setCell_other _ _ _ _ (by simp)).trans h.c3, (World.cell?_setCell_other _ _ _ _ (by simp)).trans h.c4, (World.cell?_setCell_other _ _ _ _ (by simp)).trans h.c5, fun j => by rw [World.frozen?_setCell]; exact h.fz j, by simpa [World.setCell] using h.lt⟩
theorem RdAt.setFault {w : World} {R : Nat} {s : ByteArray} {k : Nat} {tw lo : Bool} {f : Int} {op : Bool} (h : RdAt w R s k tw lo f op) (f' : Int) : RdAt (w.setCell ⟨R, 4, none⟩ (.int .i64 f')) R s k tw lo f' op :=
  ⟨(World.cell?_setCell_other _ _ _ _ (by simp)).trans h.c0, (World.cell?_setCell_other _ _ _ _ (by simp)).trans h.c1, (World.cell?_setCell_other _ _ _ _ (by simp)).trans h.c2, (World.cell?_setCell_other _ _ _ _ (by simp)).trans h.c3, World.cell?_setCell_same _ _ _ h.c4, (World.cell?_setCell_other _ _ _ _ (by simp)).trans h.c5, fun j => by rw [World.frozen?_setCell]; exact h.fz j, by simpa [World.setCell] using h.lt⟩
theorem RdAt.kept {w w' : World} {R Q : Nat} {s : ByteArray} {k : Nat} {tw lo : Bool} {f : Int} {op : Bool} (h : RdAt w R s k tw lo f op) (hg : w.grownBy w' (some Q)) (hne : R ≠ Q) : RdAt w' R s k tw lo f op := by
  have e := hg.block R h.lt (by intro e; exact hne (Option.some.inj e))
  exact ⟨(World.cell?_of_block (a := ⟨R, 0, none⟩) e).trans h.c0, (World.cell?_of_block (a := ⟨R, 1, none⟩) e).trans h.c1, (World.cell?_of_block (a := ⟨R, 2, none⟩) e).trans h.c2, (World.cell?_of_block (a := ⟨R, 3, none⟩) e).trans h.c3, (World.cell?_of_block (a := ⟨R, 4, none⟩) e).trans h.c4, (World.cell?_of_block (a := ⟨R, 5, none⟩) e).trans h.c5, fun j => (World.frozen?_of_block (a := ⟨R, j, none⟩) e).trans (h.fz j), Nat.lt_of_lt_of_le h.lt hg.size⟩
/-- The fault behind another one. -/
def failF (f kind : Int) : Int := if f = 0 then kind else f
theorem failF_ne (f kind : Int) (h : ¬ kind = 0) : ¬ failF f kind = 0 := by unfold failF; split <;> assumption
/-- The next byte, or 0. -/
def seeP (l : List UInt8) (k : Nat) : Int := if k < l.length then atL l k else 0
def hexv (c : Int) : Int := if 48 ≤ c ∧ c ≤ 57 then c - 48 else if 97 ≤ c ∧ c ≤ 102 then c - 87 else if 65 ≤ c ∧ c ≤ 70 then c - 55 else -1

def FailPost (R : Nat) (s : ByteArray) (k : Nat) (tw lo : Bool) (f : Int) (op : Bool) (w : World) (e : Ending) (w' : World) : Prop :=
  e = .returned (.bool false) ∧ RdAt w' R s k tw lo f op ∧ w.grownBy w' (some R)
theorem fail (R : Nat) (s : ByteArray) (k : Nat) (tw lo : Bool) (f : Int) (op : Bool) (kind : Int) (w : World) (h : RdAt w R s k tw lo f op) :
    Calls Tryd.prog 50 #[.pointer (some ⟨R, 0, none⟩), .int .i64 kind] w (FailPost R s k tw lo (failF f kind) op w) := by
  have c4 := h.c4
  have f4 := h.fz 4
  by_cases hf : f = 0
  · have e1 : (f == 0) = true := by rw [hf]; rfl
    have e2 : failF f kind = kind := by unfold failF; rw [if_pos hf]
    rw [e2]
    have H := Lib.hid h
    clear h hf e2
    go_enter Tryd.func50, Tryd.ntmps50
    go_wp2
    go_ret
    exact ⟨rfl, H.out.setFault kind, grown_set (grown_refl _ _) _ _⟩
  · have e1 : (f == 0) = false := by simpa using hf
    have e2 : failF f kind = f := by unfold failF; rw [if_neg hf]
    rw [e2]
    have H := Lib.hid h
    clear h hf e2
    go_enter Tryd.func50, Tryd.ntmps50
    go_wp2
    go_ret
    exact ⟨rfl, H.out, grown_refl _ _⟩

def ValPost (v : Value) (R : Nat) (s : ByteArray) (k : Nat) (tw lo : Bool) (f : Int) (op : Bool) (w : World) (e : Ending) (w' : World) : Prop :=
  e = .returned v ∧ RdAt w' R s k tw lo f op ∧ w.grownBy w' (some R)
theorem see (R : Nat) (s : ByteArray) (k : Nat) (tw lo : Bool) (f : Int) (op : Bool) (w : World) (h : RdAt w R s k tw lo f op) (_hs : s.size ≤ 140737488355328) (_hk : k ≤ s.size) :
    Calls Tryd.prog 65 #[.pointer (some ⟨R, 0, none⟩)] w (ValPost (.int .u8 (seeP s.data.toList k)) R s k tw lo f op w) := by
  have c0 := h.c0
  have c1 := h.c1
  by_cases hl : k < s.size
  · have e1 : seeP s.data.toList k = ((s[k]'hl).toNat : Int) := by unfold seeP; rw [size_list, if_pos hl, at_eq]
    rw [e1]
    have H := Lib.hid h
    clear h e1
    go_enter Tryd.func65, Tryd.ntmps65
    go_wp2
    go_quiet (fail)
    go_wp2
    go_quiet (fail)
    go_wp2
    go_ret
    exact ⟨rfl, (H.out.drewN _).drewN _, grown_drewN (grown_drewN (grown_refl _ _) _) _⟩
  · have e1 : seeP s.data.toList k = 0 := by unfold seeP; rw [size_list, if_neg hl]
    rw [e1]
    have H := Lib.hid h
    clear h e1
    go_enter Tryd.func65, Tryd.ntmps65
    go_wp2
    go_quiet (fail)
    go_wp2
    go_ret
    exact ⟨rfl, H.out.drewN _, grown_drewN (grown_refl _ _) _⟩
theorem RdAt.inc {w : World} {R : Nat} {s : ByteArray} {k : Nat} {tw lo : Bool} {f : Int} {op : Bool} (h : RdAt w R s k tw lo f op) : RdAt (w.setCell ⟨R, 1, none⟩ (.int .i64 ((k : Int) + 1))) R s (k + 1) tw lo f op := by
  have e : ((k : Int) + 1) = ((k + 1 : Nat) : Int) := by omega
  rw [e]; exact h.setAt (k + 1)
/-- It did not go on: a fault stands there. -/
def NoPost (R : Nat) (s : ByteArray) (k : Nat) (tw lo : Bool) (op : Bool) (w : World) (e : Ending) (w' : World) : Prop :=
  e = .returned (.bool false) ∧ (∃ k' f', k ≤ k' ∧ k' ≤ s.size ∧ ¬ f' = 0 ∧ RdAt w' R s k' tw lo f' op) ∧ w.grownBy w' (some R)
theorem failNo (R : Nat) (s : ByteArray) (k : Nat) (tw lo : Bool) (f : Int) (op : Bool) (kind : Int) (hk : ¬ kind = 0) (w : World) (h : RdAt w R s k tw lo f op) (hks : k ≤ s.size) :
    Calls Tryd.prog 50 #[.pointer (some ⟨R, 0, none⟩), .int .i64 kind] w (NoPost R s k tw lo op w) := by
  refine (fail R s k tw lo f op kind w h).mono ?_
  rintro e w' ⟨rfl, h1, h2⟩
  exact ⟨rfl, ⟨k, _, Nat.le_refl _, hks, failF_ne f kind hk, h1⟩, h2⟩
theorem need_ok (R : Nat) (s : ByteArray) (k : Nat) (tw lo : Bool) (f : Int) (op : Bool) (a b : Int) (w : World) (h : RdAt w R s k tw lo f op) (hs : s.size ≤ 140737488355328) (hk : k < s.size) (h1 : a ≤ atL s.data.toList k) (h2 : atL s.data.toList k ≤ b) :
    Calls Tryd.prog 32 #[.pointer (some ⟨R, 0, none⟩), .int .u8 a, .int .u8 b] w (ValPost (.bool true) R s (k + 1) tw lo f op w) := by
  have c0 := h.c0
  have c1 := h.c1
  have f1 := h.fz 1
  rw [← at_eq s k hk] at h1 h2
  have d1 : decide (((s[k]'hk).toNat : Int) < a) = false := by simpa using h1
  have d2 : decide (b < ((s[k]'hk).toNat : Int)) = false := by simpa using h2
  have d3 : decide (s.size ≤ k) = false := by simpa using hk
  have d4 : decide ((s.size : Int) ≤ (k : Int)) = false := by simp; omega
  have H := Lib.hid h
  clear h
  go_enter Tryd.func32, Tryd.ntmps32
  go_wp2
  go_quiet (fail)
  go_wp2
  go_ret
  exact ⟨rfl, (H.out.inc).drewN _, grown_drewN (grown_set (grown_refl _ _) _ _) _⟩
theorem need_no (R : Nat) (s : ByteArray) (k : Nat) (tw lo : Bool) (f : Int) (op : Bool) (a b : Int) (w : World) (h : RdAt w R s k tw lo f op) (_hs : s.size ≤ 140737488355328) (hks : k ≤ s.size) (hn : k < s.size → ¬ (a ≤ atL s.data.toList k ∧ atL s.data.toList k ≤ b)) :
    Calls Tryd.prog 32 #[.pointer (some ⟨R, 0, none⟩), .int .u8 a, .int .u8 b] w (NoPost R s k tw lo op w) := by
  have c0 := h.c0
  have c1 := h.c1
  have H := Lib.hid h
  by_cases hk : k < s.size
  · have hn' := hn hk
    rw [← at_eq s k hk] at hn'
    have d3 : decide (s.size ≤ k) = false := by simpa using hk
    have d4 : decide ((s.size : Int) ≤ (k : Int)) = false := by simp; omega
    by_cases hx : ((s[k]'hk).toNat : Int) < a
    · have d1 : decide (((s[k]'hk).toNat : Int) < a) = true := by simpa using hx
      clear hn hn' h hx
      go_enter Tryd.func32, Tryd.ntmps32
      go_wp2
      go_quiet (fail)
      go_wp2_with fail
      refine (failNo R s k tw lo f op 4 (by decide) _ (H.out.drewN _) hks).mono ?_
      rintro e w' ⟨rfl, h1, h2⟩
      have H1 := Lib.hid h1
      have H2 := Lib.hid h2
      clear h1 h2
      go_wp2
      go_ret
      exact ⟨rfl, H1.out, ⟨H2.out.os, H2.out.tape, H2.out.output, H2.out.size, H2.out.block⟩⟩
    · have d1 : decide (((s[k]'hk).toNat : Int) < a) = false := by simpa using hx
      have d2 : decide (b < ((s[k]'hk).toNat : Int)) = true := by simp; omega
      clear hn hn' h hx
      go_enter Tryd.func32, Tryd.ntmps32
      go_wp2
      go_quiet (fail)
      go_wp2_with fail
      refine (failNo R s k tw lo f op 4 (by decide) _ (H.out.drewN _) hks).mono ?_
      rintro e w' ⟨rfl, h1, h2⟩
      have H1 := Lib.hid h1
      have H2 := Lib.hid h2
      clear h1 h2
      go_wp2
      go_ret
      exact ⟨rfl, H1.out, ⟨H2.out.os, H2.out.tape, H2.out.output, H2.out.size, H2.out.block⟩⟩
  · have hks' : k = s.size := by omega
    have d3 : decide (s.size ≤ k) = true := by simpa using hk
    have d4 : decide ((s.size : Int) ≤ (k : Int)) = true := by simp; omega
    clear hn h hks' hk
    go_enter Tryd.func32, Tryd.ntmps32
    go_wp2
    go_quiet (fail)
    go_wp2_with fail
    refine (failNo R s k tw lo f op 4 (by decide) _ (H.out.drewN _) hks).mono ?_
    rintro e w' ⟨rfl, h1, h2⟩
    have H1 := Lib.hid h1
    have H2 := Lib.hid h2
    clear h1 h2
    go_wp2
    go_ret
    exact ⟨rfl, H1.out, ⟨H2.out.os, H2.out.tape, H2.out.output, H2.out.size, H2.out.block⟩⟩
end Go.Proofs.YtldcoaigecnpfaaDoor
