/- The reference's RulesOf and Blank, walked; what StyleOf keeps to. -/
import Derived.Test.YtldcoaigecnpfaaDoorGOptFlags
import Derived.Deep.RegionWith
import Derived.Deep.RegionHeld
import Derived.Deep.RegionLaw
import Derived.Deep.DeepCutAuto
import Derived.Deep.CutBlock
import Derived.Deep.LoopGhost
namespace Go.Proofs.YtldcoaigecnpfaaDoor
open Go.RowKit
def RulesPost (w : World) (e : Ending) (w' : World) : Prop := (∃ a b : Bool, e = .returned (.agg #[.bool a, .bool b])) ∧ Below w.heap.size w w'
set_option maxRecDepth 100000 in
theorem rulesOf (o : Opts) (w : World) : Calls Tryd.prog 57 #[.agg o.cells] w (RulesPost w) := by
  obtain ⟨du, iv, fl, it, ht, js, mu, pr, re, co, cm, ib, is, pb, ps⟩ := o
  have hcells : Opts.cells ⟨du, iv, fl, it, ht, js, mu, pr, re, co, cm, ib, is, pb, ps⟩ = #[.int .i64 du, .int .i64 iv, .int .i64 fl, .int .i64 it, .int .i64 ht, .int .i64 js, .int .i64 mu, .int .i64 pr, .int .i64 re, .int .i64 co, .int .i64 cm, .bool ib, .string is, .bool pb, .string ps] := rfl
  rw [hcells]
  clear hcells
  go_enter Tryd.func57, Tryd.ntmps57
  go_wp2
  refine bodyPost_ret (v := .agg #[.bool (du == 1), .bool (iv == 1)]) (by simp [results, Tryd.results57, go_sem]) rfl ⟨⟨_, _, rfl⟩, ?_⟩
  repeat (first | exact Below.refl _ _ | refine Below.alloc ?_ (by simp) _ | refine Below.setCell (p := ⟨_, _, none⟩) ?_ (by simp) _)
def blankD (s : ByteArray) : Bool := decide (∀ i, i < s.size → atL s.data.toList i = 32 ∨ atL s.data.toList i = 9)
set_option maxRecDepth 100000 in
theorem blankS (s : ByteArray) (w : World) (hs : s.size ≤ 140737488355328) : Calls Tryd.prog 58 #[.string s] w fun e w' => e = .returned (.bool (blankD s)) ∧ w' = w := by
  obtain ⟨r, hr⟩ : ∃ r, r = blankD s := ⟨_, rfl⟩
  rw [← hr]
  have HF : Hid (∀ i, i < s.size → ¬ (atL s.data.toList i = 32 ∨ atL s.data.toList i = 9) → r = false) := Lib.hid fun i hi h => by rw [hr]; exact decide_eq_false (fun q => h (q i hi))
  have HT : Hid ((∀ i, i < s.size → atL s.data.toList i = 32 ∨ atL s.data.toList i = 9) → r = true) := Lib.hid fun h => by rw [hr]; exact decide_eq_true h
  obtain ⟨n, hn⟩ : ∃ n, n = s.size := ⟨_, rfl⟩
  have hsn : (s.size : Int) = n := by rw [hn]
  have hsn' : s.size = n := hn.symm
  rw [← hn] at hs
  have HN := Lib.hid hn
  clear hn hr
  go_enter Tryd.func58, Tryd.ntmps58
  go_wp2
  go_loopg [6] n (fun q i wx => wx = w ∧ ∃ j : Nat, j ≤ n ∧ q = n - j ∧ i = .int .i64 j ∧ Hid (∀ i, i < j → atL s.data.toList i = 32 ∨ atL s.data.toList i = 9))
  case atStart => exact ⟨rfl, 0, by omega, rfl, rfl, Lib.hid (fun i hi => absurd hi (Nat.not_lt_zero _))⟩
  case round =>
    obtain ⟨rfl, j, hj, rfl, rfl, hI⟩ := hrel
    by_cases hjn : j < n
    · have hjs : j < s.size := by omega
      have hat := at_eq s j hjs
      obtain ⟨c, hc⟩ : ∃ c : Int, c = (((s[j]'hjs).toNat : Nat) : Int) := ⟨_, rfl⟩
      rw [← hc] at hat
      by_cases h32 : c = 32
      · have q1 : ((((s[j]'hjs).toNat : Nat) : Int) != 32) = false := by rw [← hc, h32]; rfl
        have HI : Hid (∀ i, i < j + 1 → atL s.data.toList i = 32 ∨ atL s.data.toList i = 9) := Lib.hid fun i hi => by
          by_cases e : i = j
          · subst e; rw [← hat]; exact .inl h32
          · exact hI.out i (by omega)
        clear hat hc h32 hI
        go_wp2
        go_roundg (n - (j + 1))
        case measure => omega
        case rel => exact ⟨rfl, j + 1, by omega, rfl, by go_num, HI⟩
      · have q1 : ((((s[j]'hjs).toNat : Nat) : Int) != 32) = true := by rw [← hc]; simpa using h32
        by_cases h9 : c = 9
        · have q2 : ((((s[j]'hjs).toNat : Nat) : Int) != 9) = false := by rw [← hc, h9]; rfl
          have HI : Hid (∀ i, i < j + 1 → atL s.data.toList i = 32 ∨ atL s.data.toList i = 9) := Lib.hid fun i hi => by
            by_cases e : i = j
            · subst e; rw [← hat]; exact .inr h9
            · exact hI.out i (by omega)
          clear hat hc h32 h9 hI
          go_wp2
          go_roundg (n - (j + 1))
          case measure => omega
          case rel => exact ⟨rfl, j + 1, by omega, rfl, by go_num, HI⟩
        · have q2 : ((((s[j]'hjs).toNat : Nat) : Int) != 9) = true := by rw [← hc]; simpa using h9
          have hrf := HF.out j hjs (by rw [← hat]; omega)
          subst hrf
          clear hat hc h32 h9 hI
          go_wp2
          go_ret
          exact ⟨rfl, rfl⟩
    · obtain rfl : j = n := by omega
      have hrt := HT.out (fun i hi => hI.out i (by omega))
      subst hrt
      go_wp2
      go_ret
      exact ⟨rfl, rfl⟩
/-- A style's cells: two marks, and whether strings are kept; whatever else. -/
structure StB (w : World) (B : Nat) (mh mj kp : Bool) : Prop where
  c0 : ∃ x : Bool, w.cell? ⟨B, 0, none⟩ = some (.bool x)
  c1 : ∃ x : Bool, w.cell? ⟨B, 1, none⟩ = some (.bool x)
  c2 : w.cell? ⟨B, 2, none⟩ = some (.bool mh)
  c3 : w.cell? ⟨B, 3, none⟩ = some (.bool mj)
  c4 : w.cell? ⟨B, 4, none⟩ = some (.bool kp)
  c5 : ∃ x : Bool, w.cell? ⟨B, 5, none⟩ = some (.bool x)
  c6 : ∃ x : Bool, w.cell? ⟨B, 6, none⟩ = some (.bool x)
  c7 : ∃ x : Bool, w.cell? ⟨B, 7, none⟩ = some (.bool x)
  c8 : ∃ x : Bool, w.cell? ⟨B, 8, none⟩ = some (.bool x)
  c9 : ∃ x : Bool, w.cell? ⟨B, 9, none⟩ = some (.bool x)
  c10 : ∃ x : Bool, w.cell? ⟨B, 10, none⟩ = some (.bool x)
  c11 : ∃ x : ByteArray, w.cell? ⟨B, 11, none⟩ = some (.string x) ∧ x.size ≤ 140737488355328
  c12 : ∃ x : ByteArray, w.cell? ⟨B, 12, none⟩ = some (.string x) ∧ x.size ≤ 140737488355328
  nf : ∀ j, j < 13 → w.frozen? ⟨B, j, none⟩ = false
theorem StB.kept {w w' : World} {B : Nat} {mh mj kp : Bool} (h : StB w B mh mj kp) (hb : w'.heap[B]? = w.heap[B]?) : StB w' B mh mj kp := by
  have hc : ∀ j, w'.cell? ⟨B, j, none⟩ = w.cell? ⟨B, j, none⟩ := fun j => World.cell?_of_block (a := ⟨B, j, none⟩) hb
  have hf : ∀ j, w'.frozen? ⟨B, j, none⟩ = w.frozen? ⟨B, j, none⟩ := fun j => by unfold World.frozen?; rw [hb]
  exact ⟨by rw [hc]; exact h.c0, by rw [hc]; exact h.c1, by rw [hc]; exact h.c2, by rw [hc]; exact h.c3, by rw [hc]; exact h.c4, by rw [hc]; exact h.c5, by rw [hc]; exact h.c6, by rw [hc]; exact h.c7, by rw [hc]; exact h.c8, by rw [hc]; exact h.c9, by rw [hc]; exact h.c10, by rw [hc]; exact h.c11, by rw [hc]; exact h.c12, fun j hj => by rw [hf]; exact h.nf j hj⟩
theorem cell_ne (w : World) (B j k : Nat) (v : Value) (h : ¬ j = k) : (w.setCell ⟨B, k, none⟩ v).cell? ⟨B, j, none⟩ = w.cell? ⟨B, j, none⟩ := World.cell?_setCell_other _ _ _ _ (by intro q; exact h (by injection q with q1 q2 q3; exact q2.symm))
theorem StB.set5 {w : World} {B : Nat} {mh mj kp : Bool} (h : StB w B mh mj kp) (x : Bool) : StB (w.setCell ⟨B, 5, none⟩ (.bool x)) B mh mj kp := by
  obtain ⟨y, hc⟩ := h.c5
  exact ⟨by rw [cell_ne _ _ _ _ _ (by decide)]; exact h.c0, by rw [cell_ne _ _ _ _ _ (by decide)]; exact h.c1, by rw [cell_ne _ _ _ _ _ (by decide)]; exact h.c2, by rw [cell_ne _ _ _ _ _ (by decide)]; exact h.c3, by rw [cell_ne _ _ _ _ _ (by decide)]; exact h.c4, ⟨x, World.cell?_setCell_same _ _ _ hc⟩, by rw [cell_ne _ _ _ _ _ (by decide)]; exact h.c6, by rw [cell_ne _ _ _ _ _ (by decide)]; exact h.c7, by rw [cell_ne _ _ _ _ _ (by decide)]; exact h.c8, by rw [cell_ne _ _ _ _ _ (by decide)]; exact h.c9, by rw [cell_ne _ _ _ _ _ (by decide)]; exact h.c10, by rw [cell_ne _ _ _ _ _ (by decide)]; exact h.c11, by rw [cell_ne _ _ _ _ _ (by decide)]; exact h.c12, fun j hj => by rw [World.frozen?_setCell]; exact h.nf j hj⟩
theorem StB.set6 {w : World} {B : Nat} {mh mj kp : Bool} (h : StB w B mh mj kp) (x : Bool) : StB (w.setCell ⟨B, 6, none⟩ (.bool x)) B mh mj kp := by
  obtain ⟨y, hc⟩ := h.c6
  exact ⟨by rw [cell_ne _ _ _ _ _ (by decide)]; exact h.c0, by rw [cell_ne _ _ _ _ _ (by decide)]; exact h.c1, by rw [cell_ne _ _ _ _ _ (by decide)]; exact h.c2, by rw [cell_ne _ _ _ _ _ (by decide)]; exact h.c3, by rw [cell_ne _ _ _ _ _ (by decide)]; exact h.c4, by rw [cell_ne _ _ _ _ _ (by decide)]; exact h.c5, ⟨x, World.cell?_setCell_same _ _ _ hc⟩, by rw [cell_ne _ _ _ _ _ (by decide)]; exact h.c7, by rw [cell_ne _ _ _ _ _ (by decide)]; exact h.c8, by rw [cell_ne _ _ _ _ _ (by decide)]; exact h.c9, by rw [cell_ne _ _ _ _ _ (by decide)]; exact h.c10, by rw [cell_ne _ _ _ _ _ (by decide)]; exact h.c11, by rw [cell_ne _ _ _ _ _ (by decide)]; exact h.c12, fun j hj => by rw [World.frozen?_setCell]; exact h.nf j hj⟩
theorem StB.set7 {w : World} {B : Nat} {mh mj kp : Bool} (h : StB w B mh mj kp) (x : Bool) : StB (w.setCell ⟨B, 7, none⟩ (.bool x)) B mh mj kp := by
  obtain ⟨y, hc⟩ := h.c7
  exact ⟨by rw [cell_ne _ _ _ _ _ (by decide)]; exact h.c0, by rw [cell_ne _ _ _ _ _ (by decide)]; exact h.c1, by rw [cell_ne _ _ _ _ _ (by decide)]; exact h.c2, by rw [cell_ne _ _ _ _ _ (by decide)]; exact h.c3, by rw [cell_ne _ _ _ _ _ (by decide)]; exact h.c4, by rw [cell_ne _ _ _ _ _ (by decide)]; exact h.c5, by rw [cell_ne _ _ _ _ _ (by decide)]; exact h.c6, ⟨x, World.cell?_setCell_same _ _ _ hc⟩, by rw [cell_ne _ _ _ _ _ (by decide)]; exact h.c8, by rw [cell_ne _ _ _ _ _ (by decide)]; exact h.c9, by rw [cell_ne _ _ _ _ _ (by decide)]; exact h.c10, by rw [cell_ne _ _ _ _ _ (by decide)]; exact h.c11, by rw [cell_ne _ _ _ _ _ (by decide)]; exact h.c12, fun j hj => by rw [World.frozen?_setCell]; exact h.nf j hj⟩
theorem StB.set8 {w : World} {B : Nat} {mh mj kp : Bool} (h : StB w B mh mj kp) (x : Bool) : StB (w.setCell ⟨B, 8, none⟩ (.bool x)) B mh mj kp := by
  obtain ⟨y, hc⟩ := h.c8
  exact ⟨by rw [cell_ne _ _ _ _ _ (by decide)]; exact h.c0, by rw [cell_ne _ _ _ _ _ (by decide)]; exact h.c1, by rw [cell_ne _ _ _ _ _ (by decide)]; exact h.c2, by rw [cell_ne _ _ _ _ _ (by decide)]; exact h.c3, by rw [cell_ne _ _ _ _ _ (by decide)]; exact h.c4, by rw [cell_ne _ _ _ _ _ (by decide)]; exact h.c5, by rw [cell_ne _ _ _ _ _ (by decide)]; exact h.c6, by rw [cell_ne _ _ _ _ _ (by decide)]; exact h.c7, ⟨x, World.cell?_setCell_same _ _ _ hc⟩, by rw [cell_ne _ _ _ _ _ (by decide)]; exact h.c9, by rw [cell_ne _ _ _ _ _ (by decide)]; exact h.c10, by rw [cell_ne _ _ _ _ _ (by decide)]; exact h.c11, by rw [cell_ne _ _ _ _ _ (by decide)]; exact h.c12, fun j hj => by rw [World.frozen?_setCell]; exact h.nf j hj⟩
theorem StB.set9 {w : World} {B : Nat} {mh mj kp : Bool} (h : StB w B mh mj kp) (x : Bool) : StB (w.setCell ⟨B, 9, none⟩ (.bool x)) B mh mj kp := by
  obtain ⟨y, hc⟩ := h.c9
  exact ⟨by rw [cell_ne _ _ _ _ _ (by decide)]; exact h.c0, by rw [cell_ne _ _ _ _ _ (by decide)]; exact h.c1, by rw [cell_ne _ _ _ _ _ (by decide)]; exact h.c2, by rw [cell_ne _ _ _ _ _ (by decide)]; exact h.c3, by rw [cell_ne _ _ _ _ _ (by decide)]; exact h.c4, by rw [cell_ne _ _ _ _ _ (by decide)]; exact h.c5, by rw [cell_ne _ _ _ _ _ (by decide)]; exact h.c6, by rw [cell_ne _ _ _ _ _ (by decide)]; exact h.c7, by rw [cell_ne _ _ _ _ _ (by decide)]; exact h.c8, ⟨x, World.cell?_setCell_same _ _ _ hc⟩, by rw [cell_ne _ _ _ _ _ (by decide)]; exact h.c10, by rw [cell_ne _ _ _ _ _ (by decide)]; exact h.c11, by rw [cell_ne _ _ _ _ _ (by decide)]; exact h.c12, fun j hj => by rw [World.frozen?_setCell]; exact h.nf j hj⟩
theorem StB.set10 {w : World} {B : Nat} {mh mj kp : Bool} (h : StB w B mh mj kp) (x : Bool) : StB (w.setCell ⟨B, 10, none⟩ (.bool x)) B mh mj kp := by
  obtain ⟨y, hc⟩ := h.c10
  exact ⟨by rw [cell_ne _ _ _ _ _ (by decide)]; exact h.c0, by rw [cell_ne _ _ _ _ _ (by decide)]; exact h.c1, by rw [cell_ne _ _ _ _ _ (by decide)]; exact h.c2, by rw [cell_ne _ _ _ _ _ (by decide)]; exact h.c3, by rw [cell_ne _ _ _ _ _ (by decide)]; exact h.c4, by rw [cell_ne _ _ _ _ _ (by decide)]; exact h.c5, by rw [cell_ne _ _ _ _ _ (by decide)]; exact h.c6, by rw [cell_ne _ _ _ _ _ (by decide)]; exact h.c7, by rw [cell_ne _ _ _ _ _ (by decide)]; exact h.c8, by rw [cell_ne _ _ _ _ _ (by decide)]; exact h.c9, ⟨x, World.cell?_setCell_same _ _ _ hc⟩, by rw [cell_ne _ _ _ _ _ (by decide)]; exact h.c11, by rw [cell_ne _ _ _ _ _ (by decide)]; exact h.c12, fun j hj => by rw [World.frozen?_setCell]; exact h.nf j hj⟩
theorem StB.set11 {w : World} {B : Nat} {mh mj kp : Bool} (h : StB w B mh mj kp) (x : ByteArray) (hx : x.size ≤ 140737488355328) : StB (w.setCell ⟨B, 11, none⟩ (.string x)) B mh mj kp := by
  obtain ⟨y, hc, _⟩ := h.c11
  exact ⟨by rw [cell_ne _ _ _ _ _ (by decide)]; exact h.c0, by rw [cell_ne _ _ _ _ _ (by decide)]; exact h.c1, by rw [cell_ne _ _ _ _ _ (by decide)]; exact h.c2, by rw [cell_ne _ _ _ _ _ (by decide)]; exact h.c3, by rw [cell_ne _ _ _ _ _ (by decide)]; exact h.c4, by rw [cell_ne _ _ _ _ _ (by decide)]; exact h.c5, by rw [cell_ne _ _ _ _ _ (by decide)]; exact h.c6, by rw [cell_ne _ _ _ _ _ (by decide)]; exact h.c7, by rw [cell_ne _ _ _ _ _ (by decide)]; exact h.c8, by rw [cell_ne _ _ _ _ _ (by decide)]; exact h.c9, by rw [cell_ne _ _ _ _ _ (by decide)]; exact h.c10, ⟨x, World.cell?_setCell_same _ _ _ hc, hx⟩, by rw [cell_ne _ _ _ _ _ (by decide)]; exact h.c12, fun j hj => by rw [World.frozen?_setCell]; exact h.nf j hj⟩
theorem StB.set12 {w : World} {B : Nat} {mh mj kp : Bool} (h : StB w B mh mj kp) (x : ByteArray) (hx : x.size ≤ 140737488355328) : StB (w.setCell ⟨B, 12, none⟩ (.string x)) B mh mj kp := by
  obtain ⟨y, hc, _⟩ := h.c12
  exact ⟨by rw [cell_ne _ _ _ _ _ (by decide)]; exact h.c0, by rw [cell_ne _ _ _ _ _ (by decide)]; exact h.c1, by rw [cell_ne _ _ _ _ _ (by decide)]; exact h.c2, by rw [cell_ne _ _ _ _ _ (by decide)]; exact h.c3, by rw [cell_ne _ _ _ _ _ (by decide)]; exact h.c4, by rw [cell_ne _ _ _ _ _ (by decide)]; exact h.c5, by rw [cell_ne _ _ _ _ _ (by decide)]; exact h.c6, by rw [cell_ne _ _ _ _ _ (by decide)]; exact h.c7, by rw [cell_ne _ _ _ _ _ (by decide)]; exact h.c8, by rw [cell_ne _ _ _ _ _ (by decide)]; exact h.c9, by rw [cell_ne _ _ _ _ _ (by decide)]; exact h.c10, by rw [cell_ne _ _ _ _ _ (by decide)]; exact h.c11, ⟨x, World.cell?_setCell_same _ _ _ hc, hx⟩, fun j hj => by rw [World.frozen?_setCell]; exact h.nf j hj⟩
theorem StB.set0 {w : World} {B : Nat} {mh mj kp : Bool} (h : StB w B mh mj kp) (x : Bool) : StB (w.setCell ⟨B, 0, none⟩ (.bool x)) B mh mj kp := by
  obtain ⟨y, hc⟩ := h.c0
  exact ⟨⟨x, World.cell?_setCell_same _ _ _ hc⟩, by rw [cell_ne _ _ _ _ _ (by decide)]; exact h.c1, by rw [cell_ne _ _ _ _ _ (by decide)]; exact h.c2, by rw [cell_ne _ _ _ _ _ (by decide)]; exact h.c3, by rw [cell_ne _ _ _ _ _ (by decide)]; exact h.c4, by rw [cell_ne _ _ _ _ _ (by decide)]; exact h.c5, by rw [cell_ne _ _ _ _ _ (by decide)]; exact h.c6, by rw [cell_ne _ _ _ _ _ (by decide)]; exact h.c7, by rw [cell_ne _ _ _ _ _ (by decide)]; exact h.c8, by rw [cell_ne _ _ _ _ _ (by decide)]; exact h.c9, by rw [cell_ne _ _ _ _ _ (by decide)]; exact h.c10, by rw [cell_ne _ _ _ _ _ (by decide)]; exact h.c11, by rw [cell_ne _ _ _ _ _ (by decide)]; exact h.c12, fun j hj => by rw [World.frozen?_setCell]; exact h.nf j hj⟩
theorem StB.set1 {w : World} {B : Nat} {mh mj kp : Bool} (h : StB w B mh mj kp) (x : Bool) : StB (w.setCell ⟨B, 1, none⟩ (.bool x)) B mh mj kp := by
  obtain ⟨y, hc⟩ := h.c1
  exact ⟨by rw [cell_ne _ _ _ _ _ (by decide)]; exact h.c0, ⟨x, World.cell?_setCell_same _ _ _ hc⟩, by rw [cell_ne _ _ _ _ _ (by decide)]; exact h.c2, by rw [cell_ne _ _ _ _ _ (by decide)]; exact h.c3, by rw [cell_ne _ _ _ _ _ (by decide)]; exact h.c4, by rw [cell_ne _ _ _ _ _ (by decide)]; exact h.c5, by rw [cell_ne _ _ _ _ _ (by decide)]; exact h.c6, by rw [cell_ne _ _ _ _ _ (by decide)]; exact h.c7, by rw [cell_ne _ _ _ _ _ (by decide)]; exact h.c8, by rw [cell_ne _ _ _ _ _ (by decide)]; exact h.c9, by rw [cell_ne _ _ _ _ _ (by decide)]; exact h.c10, by rw [cell_ne _ _ _ _ _ (by decide)]; exact h.c11, by rw [cell_ne _ _ _ _ _ (by decide)]; exact h.c12, fun j hj => by rw [World.frozen?_setCell]; exact h.nf j hj⟩
theorem StB.set2 {w : World} {B : Nat} {mh mj kp : Bool} (h : StB w B mh mj kp) (x : Bool) : StB (w.setCell ⟨B, 2, none⟩ (.bool x)) B x mj kp :=
  ⟨by rw [cell_ne _ _ _ _ _ (by decide)]; exact h.c0, by rw [cell_ne _ _ _ _ _ (by decide)]; exact h.c1, World.cell?_setCell_same _ _ _ h.c2, by rw [cell_ne _ _ _ _ _ (by decide)]; exact h.c3, by rw [cell_ne _ _ _ _ _ (by decide)]; exact h.c4, by rw [cell_ne _ _ _ _ _ (by decide)]; exact h.c5, by rw [cell_ne _ _ _ _ _ (by decide)]; exact h.c6, by rw [cell_ne _ _ _ _ _ (by decide)]; exact h.c7, by rw [cell_ne _ _ _ _ _ (by decide)]; exact h.c8, by rw [cell_ne _ _ _ _ _ (by decide)]; exact h.c9, by rw [cell_ne _ _ _ _ _ (by decide)]; exact h.c10, by rw [cell_ne _ _ _ _ _ (by decide)]; exact h.c11, by rw [cell_ne _ _ _ _ _ (by decide)]; exact h.c12, fun j hj => by rw [World.frozen?_setCell]; exact h.nf j hj⟩
theorem StB.set3 {w : World} {B : Nat} {mh mj kp : Bool} (h : StB w B mh mj kp) (x : Bool) : StB (w.setCell ⟨B, 3, none⟩ (.bool x)) B mh x kp :=
  ⟨by rw [cell_ne _ _ _ _ _ (by decide)]; exact h.c0, by rw [cell_ne _ _ _ _ _ (by decide)]; exact h.c1, by rw [cell_ne _ _ _ _ _ (by decide)]; exact h.c2, World.cell?_setCell_same _ _ _ h.c3, by rw [cell_ne _ _ _ _ _ (by decide)]; exact h.c4, by rw [cell_ne _ _ _ _ _ (by decide)]; exact h.c5, by rw [cell_ne _ _ _ _ _ (by decide)]; exact h.c6, by rw [cell_ne _ _ _ _ _ (by decide)]; exact h.c7, by rw [cell_ne _ _ _ _ _ (by decide)]; exact h.c8, by rw [cell_ne _ _ _ _ _ (by decide)]; exact h.c9, by rw [cell_ne _ _ _ _ _ (by decide)]; exact h.c10, by rw [cell_ne _ _ _ _ _ (by decide)]; exact h.c11, by rw [cell_ne _ _ _ _ _ (by decide)]; exact h.c12, fun j hj => by rw [World.frozen?_setCell]; exact h.nf j hj⟩
theorem StB.set4 {w : World} {B : Nat} {mh mj kp : Bool} (h : StB w B mh mj kp) (x : Bool) : StB (w.setCell ⟨B, 4, none⟩ (.bool x)) B mh mj x :=
  ⟨by rw [cell_ne _ _ _ _ _ (by decide)]; exact h.c0, by rw [cell_ne _ _ _ _ _ (by decide)]; exact h.c1, by rw [cell_ne _ _ _ _ _ (by decide)]; exact h.c2, by rw [cell_ne _ _ _ _ _ (by decide)]; exact h.c3, World.cell?_setCell_same _ _ _ h.c4, by rw [cell_ne _ _ _ _ _ (by decide)]; exact h.c5, by rw [cell_ne _ _ _ _ _ (by decide)]; exact h.c6, by rw [cell_ne _ _ _ _ _ (by decide)]; exact h.c7, by rw [cell_ne _ _ _ _ _ (by decide)]; exact h.c8, by rw [cell_ne _ _ _ _ _ (by decide)]; exact h.c9, by rw [cell_ne _ _ _ _ _ (by decide)]; exact h.c10, by rw [cell_ne _ _ _ _ _ (by decide)]; exact h.c11, by rw [cell_ne _ _ _ _ _ (by decide)]; exact h.c12, fun j hj => by rw [World.frozen?_setCell]; exact h.nf j hj⟩
/-- The options, the style under way, and the place of the answer. -/
structure StAll (w wx : World) (oc : Array Value) (B : Nat) (mh mj kp : Bool) : Prop where
  st : StB wx B mh mj kp
  rs : StB wx (w.heap.size + 1) false false false
  op : ∀ j, j < 15 → wx.cell? ⟨w.heap.size, j, none⟩ = oc[j]?
  nb : Below w.heap.size w wx
  lo : w.heap.size + 1 < B
theorem StAll.upd {w wx : World} {oc : Array Value} {B : Nat} {mh mj kp mh' mj' kp' : Bool} {j : Nat} {v : Value} (h : StAll w wx oc B mh mj kp) (hs : StB (wx.setCell ⟨B, j, none⟩ v) B mh' mj' kp') : StAll w (wx.setCell ⟨B, j, none⟩ v) oc B mh' mj' kp' := by
  have hlo := h.lo
  refine ⟨hs, h.rs.kept ?_, fun i hi => ?_, ?_, hlo⟩
  · exact Below.heap_setCell _ _ _ _ (fun q => by have q2 : B = w.heap.size + 1 := q.symm ▸ rfl
                                                  omega)
  · rw [World.cell?_setCell_far _ _ _ _ (by show B ≠ w.heap.size; omega)]
    exact h.op i hi
  · exact Below.setCell (p := ⟨B, j, none⟩) h.nb (by show w.heap.size ≤ B; omega) _
theorem StAll.drewN {w wx : World} {oc : Array Value} {B : Nat} {mh mj kp : Bool} (h : StAll w wx oc B mh mj kp) (n : Nat) : StAll w (wx.drewN n) oc B mh mj kp :=
  ⟨h.st.kept rfl, h.rs.kept rfl, h.op, ⟨h.nb.os, h.nb.tape, h.nb.output, h.nb.size, h.nb.block⟩, h.lo⟩
theorem StAll.drew {w wx : World} {oc : Array Value} {B : Nat} {mh mj kp : Bool} (h : StAll w wx oc B mh mj kp) : StAll w wx.drew oc B mh mj kp :=
  ⟨h.st.kept rfl, h.rs.kept rfl, h.op, ⟨h.nb.os, h.nb.tape, h.nb.output, h.nb.size, h.nb.block⟩, h.lo⟩
theorem StAll.set0 {w wx : World} {oc : Array Value} {B : Nat} {mh mj kp : Bool} (h : StAll w wx oc B mh mj kp) (x : Bool) : StAll w (wx.setCell ⟨B, 0, none⟩ (.bool x)) oc B mh mj kp := h.upd (h.st.set0 x)
theorem StAll.set1 {w wx : World} {oc : Array Value} {B : Nat} {mh mj kp : Bool} (h : StAll w wx oc B mh mj kp) (x : Bool) : StAll w (wx.setCell ⟨B, 1, none⟩ (.bool x)) oc B mh mj kp := h.upd (h.st.set1 x)
theorem StAll.set2 {w wx : World} {oc : Array Value} {B : Nat} {mh mj kp : Bool} (h : StAll w wx oc B mh mj kp) (x : Bool) : StAll w (wx.setCell ⟨B, 2, none⟩ (.bool x)) oc B x mj kp := h.upd (h.st.set2 x)
theorem StAll.set3 {w wx : World} {oc : Array Value} {B : Nat} {mh mj kp : Bool} (h : StAll w wx oc B mh mj kp) (x : Bool) : StAll w (wx.setCell ⟨B, 3, none⟩ (.bool x)) oc B mh x kp := h.upd (h.st.set3 x)
theorem StAll.set4 {w wx : World} {oc : Array Value} {B : Nat} {mh mj kp : Bool} (h : StAll w wx oc B mh mj kp) (x : Bool) : StAll w (wx.setCell ⟨B, 4, none⟩ (.bool x)) oc B mh mj x := h.upd (h.st.set4 x)
theorem StAll.set5 {w wx : World} {oc : Array Value} {B : Nat} {mh mj kp : Bool} (h : StAll w wx oc B mh mj kp) (x : Bool) : StAll w (wx.setCell ⟨B, 5, none⟩ (.bool x)) oc B mh mj kp := h.upd (h.st.set5 x)
theorem StAll.set6 {w wx : World} {oc : Array Value} {B : Nat} {mh mj kp : Bool} (h : StAll w wx oc B mh mj kp) (x : Bool) : StAll w (wx.setCell ⟨B, 6, none⟩ (.bool x)) oc B mh mj kp := h.upd (h.st.set6 x)
theorem StAll.set7 {w wx : World} {oc : Array Value} {B : Nat} {mh mj kp : Bool} (h : StAll w wx oc B mh mj kp) (x : Bool) : StAll w (wx.setCell ⟨B, 7, none⟩ (.bool x)) oc B mh mj kp := h.upd (h.st.set7 x)
theorem StAll.set8 {w wx : World} {oc : Array Value} {B : Nat} {mh mj kp : Bool} (h : StAll w wx oc B mh mj kp) (x : Bool) : StAll w (wx.setCell ⟨B, 8, none⟩ (.bool x)) oc B mh mj kp := h.upd (h.st.set8 x)
theorem StAll.set9 {w wx : World} {oc : Array Value} {B : Nat} {mh mj kp : Bool} (h : StAll w wx oc B mh mj kp) (x : Bool) : StAll w (wx.setCell ⟨B, 9, none⟩ (.bool x)) oc B mh mj kp := h.upd (h.st.set9 x)
theorem StAll.set10 {w wx : World} {oc : Array Value} {B : Nat} {mh mj kp : Bool} (h : StAll w wx oc B mh mj kp) (x : Bool) : StAll w (wx.setCell ⟨B, 10, none⟩ (.bool x)) oc B mh mj kp := h.upd (h.st.set10 x)
theorem StAll.set11 {w wx : World} {oc : Array Value} {B : Nat} {mh mj kp : Bool} (h : StAll w wx oc B mh mj kp) (x : ByteArray) (hx : x.size ≤ 140737488355328) : StAll w (wx.setCell ⟨B, 11, none⟩ (.string x)) oc B mh mj kp := h.upd (h.st.set11 x hx)
theorem StAll.set12 {w wx : World} {oc : Array Value} {B : Nat} {mh mj kp : Bool} (h : StAll w wx oc B mh mj kp) (x : ByteArray) (hx : x.size ≤ 140737488355328) : StAll w (wx.setCell ⟨B, 12, none⟩ (.string x)) oc B mh mj kp := h.upd (h.st.set12 x hx)
theorem Below.drewO {B : Nat} {a w : World} (h : Below B a w) : Below B a w.drew := ⟨h.os, h.tape, h.output, h.size, h.block⟩
def StylePost (mh mj kp : Bool) (w : World) (e : Ending) (w' : World) : Prop := (∃ (x0 x1 x5 x6 x7 x8 x9 x10 b : Bool) (x11 x12 : ByteArray), e = .returned (.tuple #[.agg #[.bool x0, .bool x1, .bool mh, .bool mj, .bool kp, .bool x5, .bool x6, .bool x7, .bool x8, .bool x9, .bool x10, .string x11, .string x12], .bool b])) ∧ Below w.heap.size w w'
end Go.Proofs.YtldcoaigecnpfaaDoor
