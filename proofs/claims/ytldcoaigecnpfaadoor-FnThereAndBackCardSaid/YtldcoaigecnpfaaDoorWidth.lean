/- The reference's Width, walked. -/
import Derived.Test.YtldcoaigecnpfaaDoorReadRune
import Derived.Test.YtldcoaigecnpfaaDoorRunF
import Derived.Test.YtldcoaigecnpfaaDoorBuf
import Derived.Lib.Strings
import Derived.Lib.IndexBytes
import Derived.Outline
namespace Go.Proofs.YtldcoaigecnpfaaDoor
open Go.RowKit
/-- A new block that alone has been written. -/
theorem grown_new {w w' : World} {o : Obj} (h : (w.alloc o).grownBy w' (some w.heap.size)) : Below w.heap.size w w' :=
  ⟨h.os, h.tape, h.output, by have := h.size; simp at this; omega, fun k hk => (h.block k (by simp; omega) (by intro e; have := Option.some.inj e; omega)).trans (alloc_old w o k hk)⟩
def WidthPost (n : Nat) (w : World) (e : Ending) (w' : World) : Prop := e = .returned (.int .i64 n) ∧ Below w.heap.size w w'
/-- The bytes of the character at the head, or 0. -/
def widL (l : List UInt8) : Nat := (rlL l).toNat
theorem widL_zero (l : List UInt8) (h : 0 < l.length) : widL l = 0 ↔ rlL l = 0 := by have := rlL_range l h; unfold widL; omega
theorem widL_dec (l : List UInt8) (_h : 0 < l.length) (h0 : ¬ rlL l = 0) : widL l = decW l := by unfold widL decW; rw [if_neg h0]
set_option maxRecDepth 100000 in
set_option maxHeartbeats 2000000 in
theorem width (s : ByteArray) (k : Nat) (w : World) (hs : s.size ≤ 140737488355328) (hk : k < s.size) :
    Calls Tryd.prog 26 #[.string s, .int .i64 k] w (WidthPost (widL (s.data.toList.drop k)) w) := by
  have hpos : 0 < (s.data.toList.drop k).length := by rw [List.length_drop, size_list]; omega
  have hrange := rlL_range _ hpos
  have hat := at_eq s k hk
  by_cases hlo : atL s.data.toList k < 128
  · have hw : widL (s.data.toList.drop k) = 1 := by
      have := (decW_ascii (s.data.toList.drop k) (by rw [natL_drop]; rw [natL_at] at hlo; simp at hlo ⊢; omega)).1
      unfold widL; rw [this]; rfl
    rw [hw]
    rw [← hat] at hlo
    clear hat hpos hrange hw
    go_enter Tryd.func26, Tryd.ntmps26
    go_wp2
    go_ret
    exact ⟨rfl, Below.refl _ _⟩
  · have hhi : 128 ≤ atL s.data.toList k := by omega
    have hblk := alloc_new w (Obj.cells #[.string s, .int .i64 k, .bool false, .bool false, .int .i64 0, .bool false] 57)
    have hrd : RdAt (w.alloc (Obj.cells #[.string s, .int .i64 k, .bool false, .bool false, .int .i64 0, .bool false] 57)) w.heap.size s k false false 0 false :=
      ⟨cell_of_row _ _ 0 _ _ _ hblk, cell_of_row _ _ 1 _ _ _ hblk, cell_of_row _ _ 2 _ _ _ hblk, cell_of_row _ _ 3 _ _ _ hblk, cell_of_row _ _ 4 _ _ _ hblk, cell_of_row _ _ 5 _ _ _ hblk, fun j => by simp only [World.frozen?, hblk, Bool.and_eq_false_iff, decide_eq_false_iff_not]; omega, by simp⟩
    have hrune := rune w.heap.size s k false false 0 false _ hrd hs hk hhi
    have hhi' : ¬ (((s[k]'hk).toNat : Nat) : Int) < 128 := by rw [hat]; omega
    have HR := Lib.hid hrune
    by_cases h0 : rlL (s.data.toList.drop k) = 0
    · have hw : widL (s.data.toList.drop k) = 0 := (widL_zero _ hpos).2 h0
      rw [hw]
      have H0 := Lib.hid h0
      clear hat hpos hrange hw hrune hrd hblk hlo hhi h0
      go_enter Tryd.func26, Tryd.ntmps26
      go_wp2_with fail
      refine HR.out.mono ?_
      rintro e w' hp
      obtain ⟨rfl, _, hg⟩ := hp.2 H0.out
      have HB := Lib.hid (grown_new hg)
      clear hp hg HR
      go_wp2
      go_ret
      exact ⟨rfl, HB.out⟩
    · have hw := widL_dec _ hpos h0
      rw [hw]
      have hdr := decW_range _ hpos
      rw [List.length_drop, size_list] at hdr
      have hok : Hid (∀ e w', RunePost w.heap.size s k false false 0 false (w.alloc (Obj.cells #[.string s, .int .i64 k, .bool false, .bool false, .int .i64 0, .bool false] 57)) e w' → ValPost (.bool true) w.heap.size s (k + decW (s.data.toList.drop k)) false false 0 false (w.alloc (Obj.cells #[.string s, .int .i64 k, .bool false, .bool false, .int .i64 0, .bool false] 57)) e w') := fun e w' hp => hp.1 h0
      clear hat hpos hrange hw hrune hrd hblk hlo hhi h0
      generalize decW (s.data.toList.drop k) = n at hdr hok ⊢
      obtain ⟨n1, n2, n3⟩ := hdr
      go_enter Tryd.func26, Tryd.ntmps26
      go_wp2_with fail
      refine HR.out.mono ?_
      rintro e w' hp
      obtain ⟨rfl, hr, hg⟩ := hok.out e w' hp
      have c1 := hr.c1
      have hz := hr.lt
      have HB := Lib.hid (grown_new hg)
      have e1 : ((k + n : Nat) : Int) - (k : Int) = (n : Int) := by omega
      have e2 : IntKind.i64.wrap (((k + n : Nat) : Int) - (k : Int)) = (n : Int) := by rw [IntKind.wrap_i64]; omega
      clear hp hg hr HR hok
      go_wp2
      go_ret
      exact ⟨ret_i64 (by omega), HB.out⟩
/-- A part of a text. -/
theorem src_sub {w : World} (s : ByteArray) (a b : Nat) : Src w 9 (.string (s.extract a b)) ((s.data.toList.drop a).take (b - a)) := by
  have := Src.text (s.extract a b) (w := w)
  rw [Lib.extract_data] at this
  exact this
theorem Buf.empty (w : World) : Buf (w.alloc (Obj.cells #[] 5)) w.heap.size none (.slice (some ⟨w.heap.size, 0, none⟩) 0 0) [] :=
  .inr ⟨w.heap.size, 0, 0, #[], (0, 0), rfl, .inl (Nat.le_refl _), alloc_new w _, Nat.le_refl _, Nat.zero_le _, Nat.le_refl _, .inl (Nat.le_refl _), fun j hj => absurd hj (Nat.not_lt_zero _)⟩
theorem noG : ∀ g o, (none : Option (Nat × Nat)) = some (g, o) → g < 0 := fun _ _ h => by cases h
theorem Buf.belowA {w w' : World} {base : Nat} {G : Option (Nat × Nat)} {v : Value} {l : List UInt8} (h : Buf w base G v l) (hb : Below w.heap.size w w') : Buf w' base G v l := h.below hb h.block
theorem Fr.of_belowA {base : Nat} {G : Option (Nat × Nat)} {w w' : World} (h : Below w.heap.size w w') (hbase : base ≤ w.heap.size) (hG : ∀ g o, G = some (g, o) → g < base) : Fr base G w w' := Fr.of_below (h.mono hbase) hG
end Go.Proofs.YtldcoaigecnpfaaDoor
