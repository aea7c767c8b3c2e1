/- impl.Options.flags, walked: the flags' values, by the options. -/
import Derived.Test.YtldcoaigecnpfaaDoorGClose
import Derived.Test.YtldcoaigecnpfaaDoorGAppendQuote
import Derived.Test.YtldcoaigecnpfaaDoorProg
import Derived.WalkKit
import Derived.WalkLawsBesides
import Derived.WalkSpells
import Derived.Lib.Hide
namespace Go.Proofs.YtldcoaigecnpfaaDoor
open Go.RowKit
/-- What Set makes of the values. -/
def setVal (t b : Int) : Int := bits BinOp.or IntKind.u64 (bits BinOp.and IntKind.u64 t (bits BinOp.xor IntKind.u64 IntKind.u64.max (bits BinOp.andNot IntKind.u64 b 1))) (IntKind.u64.wrap (bits BinOp.and IntKind.u64 b 1 * bits BinOp.andNot IntKind.u64 b 1))
/-- A block of flags. -/
structure FlAt (w : World) (B : Nat) (v : Int) : Prop where
  c0 : ∃ g, w.cell? ⟨B, 0, none⟩ = some (.int .u64 g)
  c1 : w.cell? ⟨B, 1, none⟩ = some (.int .u64 v)
  f0 : w.frozen? ⟨B, 0, none⟩ = false
  f1 : w.frozen? ⟨B, 1, none⟩ = false
def FlPost (B : Nat) (v : Int) (w : World) (e : Ending) (w' : World) : Prop := e = .returned (.tuple #[]) ∧ FlAt w' B v ∧ Below B w w'
theorem doSet (t b : Int) (B : Nat) (w : World) (h : FlAt w B t) : Calls Tryd.prog 80 #[.pointer (some ⟨B, 0, none⟩), .int .u64 b] w (FlPost B (setVal t b) w) := by
  obtain ⟨⟨g, hg⟩, ht, f0, f1⟩ := h
  go_enter Tryd.func80, Tryd.ntmps80
  go_wp2
  go_end0
  refine ⟨rfl, ⟨⟨bits BinOp.or IntKind.u64 g (bits BinOp.andNot IntKind.u64 b 1), ?_⟩, ?_, ?_, ?_⟩, Below.setCell (p := ⟨B, 1, none⟩) (Below.setCell (p := ⟨B, 1, none⟩) (Below.setCell (p := ⟨B, 0, none⟩) (Below.refl B w) (Nat.le_refl B) _) (Nat.le_refl B) _) (Nat.le_refl B) _⟩
  · simp [go_sem, *]
  · exact World.cell?_setCell_same _ _ _ (World.cell?_setCell_same _ _ _ ((World.cell?_setCell_other _ _ _ _ (by simp)).trans ht))
  · simp [World.frozen?_setCell, f0]
  · simp [World.frozen?_setCell, f1]
/-- What an option makes of the values. -/
def flV (v s b : Int) : Int := if s = 1 then setVal v (bits BinOp.or IntKind.u64 b 1) else if s = 2 then setVal v (bits BinOp.or IntKind.u64 b 0) else v
theorem flagS (v s b : Int) (B : Nat) (w : World) (h : FlAt w B v) : Calls Tryd.prog 56 #[.pointer (some ⟨B, 0, none⟩), .int .i64 s, .int .u64 b] w (FlPost B (flV v s b) w) := by
  by_cases h1 : s = 1
  · subst h1
    have hD := Lib.hid (doSet v (bits BinOp.or IntKind.u64 b 1) B w h)
    have hv : flV v 1 b = setVal v (bits BinOp.or IntKind.u64 b 1) := rfl
    rw [hv]
    clear h hv
    go_enter Tryd.func56, Tryd.ntmps56
    go_wp2_with fail
    refine hD.out.mono ?_
    rintro e w' ⟨rfl, hq⟩
    have HQ := Lib.hid hq
    clear hq hD
    go_wp2
    go_end0
    exact ⟨rfl, HQ.out⟩
  · by_cases h2 : s = 2
    · subst h2
      have hD := Lib.hid (doSet v (bits BinOp.or IntKind.u64 b 0) B w h)
      have hv : flV v 2 b = setVal v (bits BinOp.or IntKind.u64 b 0) := rfl
      rw [hv]
      clear h hv h1
      go_enter Tryd.func56, Tryd.ntmps56
      go_wp2_with fail
      refine hD.out.mono ?_
      rintro e w' ⟨rfl, hq⟩
      have HQ := Lib.hid hq
      clear hq hD
      go_wp2
      go_end0
      exact ⟨rfl, HQ.out⟩
    · have hv : flV v s b = v := by unfold flV; rw [if_neg h1, if_neg h2]
      have e1 : (s == 1) = false := by simpa using h1
      have e2 : (s == 2) = false := by simpa using h2
      have H := Lib.hid h
      rw [hv]
      clear h hv h1 h2
      go_enter Tryd.func56, Tryd.ntmps56
      go_wp2
      go_end0
      exact ⟨rfl, H.out, Below.refl _ _⟩
/-- The values, bit by bit. -/
def valN (i h j p t f : Bool) : Nat := (if i then 4 else 0) + (if h then 512 else 0) + (if j then 1024 else 0) + (if p then 32 else 0) + (if t then 64 else 0) + (if f then 128 else 0)
theorem st0 : setVal ((valN false false false false false false : Nat) : Int) (bits BinOp.or IntKind.u64 4 1) = ((valN true false false false false false : Nat) : Int) ∧ setVal ((valN false false false false false false : Nat) : Int) (bits BinOp.or IntKind.u64 4 0) = ((valN false false false false false false : Nat) : Int) := by decide
theorem fl0 (s : Int) : flV ((valN false false false false false false : Nat) : Int) s 4 = ((valN (decide (s = 1)) false false false false false : Nat) : Int) := by
  have h := st0
  unfold flV
  by_cases h1 : s = 1
  · rw [if_pos h1, decide_eq_true h1]; exact h.1
  · rw [if_neg h1, decide_eq_false h1]
    split
    · exact h.2
    · rfl
theorem st1 : ∀ i : Bool, setVal ((valN i false false false false false : Nat) : Int) (bits BinOp.or IntKind.u64 512 1) = ((valN i true false false false false : Nat) : Int) ∧ setVal ((valN i false false false false false : Nat) : Int) (bits BinOp.or IntKind.u64 512 0) = ((valN i false false false false false : Nat) : Int) := by decide
theorem fl1 (i : Bool) (s : Int) : flV ((valN i false false false false false : Nat) : Int) s 512 = ((valN i (decide (s = 1)) false false false false : Nat) : Int) := by
  have h := st1 i
  unfold flV
  by_cases h1 : s = 1
  · rw [if_pos h1, decide_eq_true h1]; exact h.1
  · rw [if_neg h1, decide_eq_false h1]
    split
    · exact h.2
    · rfl
theorem st2 : ∀ i h : Bool, setVal ((valN i h false false false false : Nat) : Int) (bits BinOp.or IntKind.u64 1024 1) = ((valN i h true false false false : Nat) : Int) ∧ setVal ((valN i h false false false false : Nat) : Int) (bits BinOp.or IntKind.u64 1024 0) = ((valN i h false false false false : Nat) : Int) := by decide
theorem fl2 (i h : Bool) (s : Int) : flV ((valN i h false false false false : Nat) : Int) s 1024 = ((valN i h (decide (s = 1)) false false false : Nat) : Int) := by
  have h := st2 i h
  unfold flV
  by_cases h1 : s = 1
  · rw [if_pos h1, decide_eq_true h1]; exact h.1
  · rw [if_neg h1, decide_eq_false h1]
    split
    · exact h.2
    · rfl
theorem st3 : ∀ i h j : Bool, setVal ((valN i h j false false false : Nat) : Int) (bits BinOp.or IntKind.u64 32 1) = ((valN i h j true false false : Nat) : Int) ∧ setVal ((valN i h j false false false : Nat) : Int) (bits BinOp.or IntKind.u64 32 0) = ((valN i h j false false false : Nat) : Int) := by decide
theorem fl3 (i h j : Bool) (s : Int) : flV ((valN i h j false false false : Nat) : Int) s 32 = ((valN i h j (decide (s = 1)) false false : Nat) : Int) := by
  have h := st3 i h j
  unfold flV
  by_cases h1 : s = 1
  · rw [if_pos h1, decide_eq_true h1]; exact h.1
  · rw [if_neg h1, decide_eq_false h1]
    split
    · exact h.2
    · rfl
theorem st4 : ∀ i h j p : Bool, setVal ((valN i h j p false false : Nat) : Int) (bits BinOp.or IntKind.u64 64 1) = ((valN i h j p true false : Nat) : Int) ∧ setVal ((valN i h j p false false : Nat) : Int) (bits BinOp.or IntKind.u64 64 0) = ((valN i h j p false false : Nat) : Int) := by decide
theorem fl4 (i h j p : Bool) (s : Int) : flV ((valN i h j p false false : Nat) : Int) s 64 = ((valN i h j p (decide (s = 1)) false : Nat) : Int) := by
  have h := st4 i h j p
  unfold flV
  by_cases h1 : s = 1
  · rw [if_pos h1, decide_eq_true h1]; exact h.1
  · rw [if_neg h1, decide_eq_false h1]
    split
    · exact h.2
    · rfl
theorem st5 : ∀ i h j p t : Bool, setVal ((valN i h j p t false : Nat) : Int) (bits BinOp.or IntKind.u64 128 1) = ((valN i h j p t true : Nat) : Int) ∧ setVal ((valN i h j p t false : Nat) : Int) (bits BinOp.or IntKind.u64 128 0) = ((valN i h j p t false : Nat) : Int) := by decide
theorem fl5 (i h j p t : Bool) (s : Int) : flV ((valN i h j p t false : Nat) : Int) s 128 = ((valN i h j p t (decide (s = 1)) : Nat) : Int) := by
  have h := st5 i h j p t
  unfold flV
  by_cases h1 : s = 1
  · rw [if_pos h1, decide_eq_true h1]; exact h.1
  · rw [if_neg h1, decide_eq_false h1]
    split
    · exact h.2
    · rfl
theorem fb4 : ∀ i h j p t f : Bool, flagB ((valN i h j p t f : Nat) : Int) 4 = i := by decide
theorem fb512 : ∀ i h j p t f : Bool, flagB ((valN i h j p t f : Nat) : Int) 512 = h := by decide
theorem fb1024 : ∀ i h j p t f : Bool, flagB ((valN i h j p t f : Nat) : Int) 1024 = j := by decide
theorem fb1536 : ∀ i h j p t f : Bool, flagB ((valN i h j p t f : Nat) : Int) 1536 = (h || j) := by decide
theorem fb32 : ∀ i h j p t f : Bool, flagB ((valN i h j p t f : Nat) : Int) 32 = p := by decide
/-- Options as a value. -/
structure Opts where
  (du iv fl it ht js mu pr re co cm : Int)
  (ib : Bool) (is : ByteArray) (pb : Bool) (ps : ByteArray)
def Opts.cells (o : Opts) : Array Value := #[.int .i64 o.du, .int .i64 o.iv, .int .i64 o.fl, .int .i64 o.it, .int .i64 o.ht, .int .i64 o.js, .int .i64 o.mu, .int .i64 o.pr, .int .i64 o.re, .int .i64 o.co, .int .i64 o.cm, .bool o.ib, .string o.is, .bool o.pb, .string o.ps]
def Opts.val (o : Opts) : Nat := valN (decide (o.iv = 1)) (decide (o.ht = 1)) (decide (o.js = 1)) (decide (o.pr = 1)) (decide (o.it = 1)) (decide (o.fl = 1))
def FlagsPost (o : Opts) (w : World) (e : Ending) (w' : World) : Prop := ∃ B, e = .returned (.pointer (some ⟨B, 0, none⟩)) ∧ w.heap.size ≤ B ∧ B < w'.heap.size ∧ FlAt w' B ((o.val : Nat) : Int) ∧ Below w.heap.size w w'
theorem flagsS (o : Opts) (w : World) : Calls Tryd.prog 34 #[.agg o.cells] w (FlagsPost o w) := by
  obtain ⟨du, iv, fl, it, ht, js, mu, pr, re, co, cm, ib, is, pb, ps⟩ := o
  have hv : Opts.val ⟨du, iv, fl, it, ht, js, mu, pr, re, co, cm, ib, is, pb, ps⟩ = valN (decide (iv = 1)) (decide (ht = 1)) (decide (js = 1)) (decide (pr = 1)) (decide (it = 1)) (decide (fl = 1)) := rfl
  unfold FlagsPost
  rw [hv]
  clear hv
  show Calls _ _ #[.agg #[.int .i64 du, .int .i64 iv, .int .i64 fl, .int .i64 it, .int .i64 ht, .int .i64 js, .int .i64 mu, .int .i64 pr, .int .i64 re, .int .i64 co, .int .i64 cm, .bool ib, .string is, .bool pb, .string ps]] _ _
  obtain ⟨W, hW⟩ : ∃ W, W = (w.alloc (Obj.cells #[.int .i64 du, .int .i64 iv, .int .i64 fl, .int .i64 it, .int .i64 ht, .int .i64 js, .int .i64 mu, .int .i64 pr, .int .i64 re, .int .i64 co, .int .i64 cm, .bool ib, .string is, .bool pb, .string ps] 35)).alloc (Obj.cells #[.int .u64 0, .int .u64 0] 84) := ⟨_, rfl⟩
  have HC : Hid (∀ W', Below (w.heap.size + 1) W W' → W'.cell? ⟨w.heap.size, 1, none⟩ = some (.int .i64 iv) ∧ W'.cell? ⟨w.heap.size, 2, none⟩ = some (.int .i64 fl) ∧ W'.cell? ⟨w.heap.size, 3, none⟩ = some (.int .i64 it) ∧ W'.cell? ⟨w.heap.size, 4, none⟩ = some (.int .i64 ht) ∧ W'.cell? ⟨w.heap.size, 5, none⟩ = some (.int .i64 js) ∧ W'.cell? ⟨w.heap.size, 7, none⟩ = some (.int .i64 pr)) := Lib.hid fun W' hb => by
    have hk : ∀ j, W'.cell? ⟨w.heap.size, j, none⟩ = W.cell? ⟨w.heap.size, j, none⟩ := fun j => World.cell?_of_block (a := ⟨w.heap.size, j, none⟩) (hb.block w.heap.size (Nat.lt_succ_self _))
    simp only [hk]
    rw [hW]
    refine ⟨?_, ?_, ?_, ?_, ?_, ?_⟩ <;> simp [go_sem]
  have HF : Hid (FlAt W (w.heap.size + 1) (((valN false false false false false false : Nat)) : Int)) := Lib.hid (by
    rw [hW]
    exact ⟨⟨0, by simp [go_sem]⟩, by simp [go_sem, valN], by simp [go_sem], by simp [go_sem]⟩)
  have HB : Hid (Below w.heap.size w W) := Lib.hid (by rw [hW]; exact ((Below.refl _ _).alloc (Nat.le_refl _) _).alloc (by simp) _)
  have HS : Hid (W.heap.size = w.heap.size + 2) := Lib.hid (by rw [hW]; simp)
  have HX : Hid (∀ B v s b W', FlAt W' B v → Calls Tryd.prog 56 #[.pointer (some ⟨B, 0, none⟩), .int .i64 s, .int .u64 b] W' (FlPost B (flV v s b) W')) := Lib.hid fun B v s b W' h => flagS v s b B W' h
  obtain ⟨q1, _, _, _, _, _⟩ := HC.out W (Below.refl _ _)
  rw [hW] at q1
  go_enter Tryd.func34, Tryd.ntmps34
  go_wp2_with fail
  rw [← hW]
  clear q1
  refine (HX.out _ _ iv 4 _ HF.out).mono ?_
  rintro e w1 ⟨rfl, h1, b1⟩
  rw [fl0 iv] at h1
  have H1 := Lib.hid h1
  have B1 : Hid (Below (w.heap.size + 1) W w1) := Lib.hid (b1)
  clear h1 b1 HF
  obtain ⟨q1, q2, q3, q4, q5, q7⟩ := HC.out w1 B1.out
  go_wp2_with fail
  clear q1 q2 q3 q4 q5 q7
  refine (HX.out _ _ ht 512 _ H1.out).mono ?_
  rintro e w2 ⟨rfl, h2, b2⟩
  rw [fl1 (decide (iv = 1)) ht] at h2
  have H2 := Lib.hid h2
  have B2 : Hid (Below (w.heap.size + 1) W w2) := Lib.hid (B1.out.trans b2)
  clear h2 b2 H1 B1 
  obtain ⟨q1, q2, q3, q4, q5, q7⟩ := HC.out w2 B2.out
  go_wp2_with fail
  clear q1 q2 q3 q4 q5 q7
  refine (HX.out _ _ js 1024 _ H2.out).mono ?_
  rintro e w3 ⟨rfl, h3, b3⟩
  rw [fl2 (decide (iv = 1)) (decide (ht = 1)) js] at h3
  have H3 := Lib.hid h3
  have B3 : Hid (Below (w.heap.size + 1) W w3) := Lib.hid (B2.out.trans b3)
  clear h3 b3 H2 B2 
  obtain ⟨q1, q2, q3, q4, q5, q7⟩ := HC.out w3 B3.out
  go_wp2_with fail
  clear q1 q2 q3 q4 q5 q7
  refine (HX.out _ _ pr 32 _ H3.out).mono ?_
  rintro e w4 ⟨rfl, h4, b4⟩
  rw [fl3 (decide (iv = 1)) (decide (ht = 1)) (decide (js = 1)) pr] at h4
  have H4 := Lib.hid h4
  have B4 : Hid (Below (w.heap.size + 1) W w4) := Lib.hid (B3.out.trans b4)
  clear h4 b4 H3 B3 
  obtain ⟨q1, q2, q3, q4, q5, q7⟩ := HC.out w4 B4.out
  go_wp2_with fail
  clear q1 q2 q3 q4 q5 q7
  refine (HX.out _ _ it 64 _ H4.out).mono ?_
  rintro e w5 ⟨rfl, h5, b5⟩
  rw [fl4 (decide (iv = 1)) (decide (ht = 1)) (decide (js = 1)) (decide (pr = 1)) it] at h5
  have H5 := Lib.hid h5
  have B5 : Hid (Below (w.heap.size + 1) W w5) := Lib.hid (B4.out.trans b5)
  clear h5 b5 H4 B4 
  obtain ⟨q1, q2, q3, q4, q5, q7⟩ := HC.out w5 B5.out
  go_wp2_with fail
  clear q1 q2 q3 q4 q5 q7
  refine (HX.out _ _ fl 128 _ H5.out).mono ?_
  rintro e w6 ⟨rfl, h6, b6⟩
  rw [fl5 (decide (iv = 1)) (decide (ht = 1)) (decide (js = 1)) (decide (pr = 1)) (decide (it = 1)) fl] at h6
  have H6 := Lib.hid h6
  have B6 : Hid (Below (w.heap.size + 1) W w6) := Lib.hid (B5.out.trans b6)
  clear h6 b6 H5 B5 
  go_wp2
  go_ret
  have hs := HS.out
  have hb := HB.out
  exact ⟨w.heap.size + 1, rfl, by omega, by have := B6.out.size; omega, H6.out, hb.trans (B6.out.mono (by omega))⟩
end Go.Proofs.YtldcoaigecnpfaaDoor
