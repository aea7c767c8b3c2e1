/- The two laws on flags: FnAskFlags and FnSetFlags return true for every input. No condition. -/
import Derived.Test.YtbnnccadnnfomaaProg
import Derived.WalkKit
import Derived.WalkLawsBesides
import Derived.WalkSpells
import Derived.BigQuiet
import Derived.Deep.RegionHeld3
import Derived.Lib.Hide
namespace Go.Proofs.Ytbnnccadnnfomaa
open Go.RowKit
namespace flags

theorem bits_nonneg (op : BinOp) (a b : Int) : 0 ≤ bits op IntKind.u64 a b := by
  unfold Go.bits; rw [IntKind.wrap_u64]; omega
theorem ret_bool {a b : Bool} (h : a = b) : Ending.returned (.bool a) = .returned (.bool b) := by rw [h]
theorem pos_ne (n : Int) (h : 0 ≤ n) : decide (0 < n) = (n != 0) := by
  by_cases e : n = 0
  · subst e; rfl
  · have : 0 < n := by omega
    simp [this, e]

theorem kept (g t : Int) (w : World) :
    Calls Try.prog 19 #[.agg #[.int .u64 g, .int .u64 t]] w fun e w' => e = .returned (.agg #[.int .u64 g, .int .u64 t]) ∧ Below w.heap.size w w' := by
  go_enter Try.func19, Try.ntmps19
  go_wp2
  exact bodyPost_ret (v := .agg #[.int .u64 g, .int .u64 t]) (by simp [results, Try.results19, go_sem]) rfl ⟨rfl, ((Below.refl _ _).alloc (Nat.le_refl _) _).alloc (by simp) _⟩
theorem told (g t : Int) (w : World) :
    Calls Try.prog 28 #[.agg #[.int .u64 g, .int .u64 t]] w fun e w' => e = .returned (.agg #[.int .u64 g, .int .u64 t]) ∧ Below w.heap.size w w' := by
  go_enter Try.func28, Try.ntmps28
  go_wp2
  exact bodyPost_ret (v := .agg #[.int .u64 g, .int .u64 t]) (by simp [results, Try.results28, go_sem]) rfl ⟨rfl, ((Below.refl _ _).alloc (Nat.le_refl _) _).alloc (by simp) _⟩
theorem has (g t b : Int) (w : World) :
    Calls Try.prog 20 #[.agg #[.int .u64 g, .int .u64 t], .int .u64 b] w fun e w' => e = .returned (.bool (bits BinOp.and IntKind.u64 g b != 0)) ∧ Below w.heap.size w w' := by
  go_enter Try.func20, Try.ntmps20
  go_wp2
  go_ret
  exact ⟨ret_bool (pos_ne _ (bits_nonneg _ _ _)), (Below.refl _ _).alloc (Nat.le_refl _) _⟩
theorem get (g t b : Int) (w : World) :
    Calls Try.prog 21 #[.agg #[.int .u64 g, .int .u64 t], .int .u64 b] w fun e w' => e = .returned (.bool (bits BinOp.and IntKind.u64 t b != 0)) ∧ Below w.heap.size w w' := by
  go_enter Try.func21, Try.ntmps21
  go_wp2
  go_ret
  exact ⟨ret_bool (pos_ne _ (bits_nonneg _ _ _)), (Below.refl _ _).alloc (Nat.le_refl _) _⟩
theorem given (g t b : Int) (w : World) :
    Calls Try.prog 9 #[.agg #[.int .u64 g, .int .u64 t], .int .u64 b] w fun e w' => e = .returned (.bool (bits BinOp.and IntKind.u64 g b != 0)) ∧ Below w.heap.size w w' := by
  go_enter Try.func9, Try.ntmps9
  go_wp2_with (first | (go_at_call 19; refine (kept _ _ _).mono ?_; rintro e w1 ⟨rfl, hb⟩) | (go_at_call 20; refine (has _ _ _ _).mono ?_; rintro e w2 ⟨rfl, hb2⟩))
  go_ret
  exact ⟨rfl, (((Below.refl _ _).alloc (Nat.le_refl _) _).trans (hb.mono (by simp))).trans (hb2.mono (by have := hb.size; simp at this; omega))⟩
theorem isTrue (g t b : Int) (w : World) :
    Calls Try.prog 10 #[.agg #[.int .u64 g, .int .u64 t], .int .u64 b] w fun e w' => e = .returned (.bool (bits BinOp.and IntKind.u64 t b != 0)) ∧ Below w.heap.size w w' := by
  go_enter Try.func10, Try.ntmps10
  go_wp2_with (first | (go_at_call 19; refine (kept _ _ _).mono ?_; rintro e w1 ⟨rfl, hb⟩) | (go_at_call 21; refine (get _ _ _ _).mono ?_; rintro e w2 ⟨rfl, hb2⟩))
  go_ret
  exact ⟨rfl, (((Below.refl _ _).alloc (Nat.le_refl _) _).trans (hb.mono (by simp))).trans (hb2.mono (by have := hb.size; simp at this; omega))⟩
def fok (g t : Int) : Bool := bits BinOp.andNot IntKind.u64 t g == 0 && bits BinOp.and IntKind.u64 g 1 == 0
theorem ok_true (g t : Int) (w : World) (h : fok g t = true) :
    Calls Try.prog 8 #[.agg #[.int .u64 g, .int .u64 t]] w fun e w' => e = .returned (.bool true) ∧ Below w.heap.size w w' := by
  unfold fok at h
  rw [Bool.and_eq_true] at h
  obtain ⟨h1, h2⟩ := h
  go_enter Try.func8, Try.ntmps8
  go_wp2
  go_ret
  exact ⟨rfl, (Below.refl _ _).alloc (Nat.le_refl _) _⟩
theorem ok_false (g t : Int) (w : World) (h : fok g t = false) :
    Calls Try.prog 8 #[.agg #[.int .u64 g, .int .u64 t]] w fun e w' => e = .returned (.bool false) ∧ Below w.heap.size w w' := by
  unfold fok at h
  rw [Bool.and_eq_false_iff] at h
  by_cases h1 : (bits BinOp.andNot IntKind.u64 t g == 0) = true
  · have h2 : (bits BinOp.and IntKind.u64 g 1 == 0) = false := by rcases h with h | h; · rw [h] at h1; cases h1
                                                                  · exact h
    clear h
    go_enter Try.func8, Try.ntmps8
    go_wp2
    go_ret
    exact ⟨rfl, (Below.refl _ _).alloc (Nat.le_refl _) _⟩
  · have h2 : (bits BinOp.andNot IntKind.u64 t g == 0) = false := by simpa using h1
    clear h h1
    go_enter Try.func8, Try.ntmps8
    go_wp2
    go_ret
    exact ⟨rfl, (Below.refl _ _).alloc (Nat.le_refl _) _⟩

theorem ask_false (g t b : Int) (w : World) (h : fok g t = false) :
    Calls Try.prog 3 #[.agg #[.int .u64 g, .int .u64 t], .int .u64 b] w fun e w' => e = .returned (.bool true) ∧ Below w.heap.size w w' := by
  go_enter Try.func3, Try.ntmps3
  go_wp2_with (go_at_call 8; refine (ok_false _ _ _ h).mono ?_; rintro e w1 ⟨rfl, hb⟩)
  go_ret
  exact ⟨rfl, ((Below.refl _ _).alloc (Nat.le_refl _) _).trans (hb.mono (by simp))⟩
/-- The cells of a boxed pair stay as they are behind a call that makes blocks alone. -/
theorem keep_call {B : Nat} {u v : Value} {W wx w2 : World} (h : wx.cell? ⟨B, 0, none⟩ = some u ∧ wx.cell? ⟨B, 1, none⟩ = some v ∧ Below B W wx ∧ B < wx.heap.size) (hb : Below wx.heap.size wx w2) :
    w2.cell? ⟨B, 0, none⟩ = some u ∧ w2.cell? ⟨B, 1, none⟩ = some v ∧ Below B W w2 ∧ B < w2.heap.size :=
  ⟨(hb.cell (p := ⟨B, 0, none⟩) h.2.2.2).trans h.1, (hb.cell (p := ⟨B, 1, none⟩) h.2.2.2).trans h.2.1, h.2.2.1.trans (hb.mono (Nat.le_of_lt h.2.2.2)), Nat.lt_of_lt_of_le h.2.2.2 hb.size⟩
theorem keep_first (g t : Int) (w : World) (w1 : World) (hb : Below (w.alloc (Obj.cells #[Value.int IntKind.u64 g, Value.int IntKind.u64 t] 24)).heap.size (w.alloc (Obj.cells #[Value.int IntKind.u64 g, Value.int IntKind.u64 t] 24)) w1) :
    w1.cell? ⟨w.heap.size, 0, none⟩ = some (.int .u64 g) ∧ w1.cell? ⟨w.heap.size, 1, none⟩ = some (.int .u64 t) ∧ Below w.heap.size w w1 ∧ w.heap.size < w1.heap.size :=
  keep_call (wx := w.alloc (Obj.cells #[Value.int IntKind.u64 g, Value.int IntKind.u64 t] 24)) ⟨by simp [go_sem], by simp [go_sem], (Below.refl _ _).alloc (Nat.le_refl _) _, by simp⟩ hb

theorem ask_true (g t b : Int) (w : World) (h : fok g t = true) :
    Calls Try.prog 3 #[.agg #[.int .u64 g, .int .u64 t], .int .u64 b] w fun e w' => e = .returned (.bool true) ∧ Below w.heap.size w w' := by
  go_enter Try.func3, Try.ntmps3
  go_wp2_with (go_at_call 8; refine (ok_true _ _ _ h).mono ?_; rintro e w1 ⟨rfl, hb⟩)
  have K := keep_first g t w w1 hb
  clear hb h
  go_region_held3 (fun wx => wx.cell? ⟨w.heap.size, 0, none⟩ = some (.int .u64 g) ∧ wx.cell? ⟨w.heap.size, 1, none⟩ = some (.int .u64 t) ∧ Below w.heap.size w wx ∧ w.heap.size < wx.heap.size)
    (first | exact ⟨K.1, K.2.1, K.2.2.1.drew, K.2.2.2⟩ | exact keep_call ‹_› ‹_›)
    (first | (go_at_call 9; refine (given _ _ _ _).mono ?_; rintro e w' ⟨rfl, hb⟩) | (go_at_call 10; refine (isTrue _ _ _ _).mono ?_; rintro e w' ⟨rfl, hb⟩))
  go_wp2
  go_ret
  exact ⟨rfl, (‹_ ∧ _ ∧ _ ∧ _› : _ ∧ _ ∧ Below w.heap.size w w' ∧ _).2.2.1⟩

end flags
end Go.Proofs.Ytbnnccadnnfomaa
