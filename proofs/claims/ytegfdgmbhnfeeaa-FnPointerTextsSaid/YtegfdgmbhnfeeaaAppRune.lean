/- utf8.AppendRune onto bytes that a call appends to, walked. -/
import Derived.Test.YtegfdgmbhnfeeaaBuf
import Derived.Lib.RuneBytes
import Derived.Laws.BitsLemmas
import Derived.Laws.BitsAllLaws
import Derived.Lib.Hide
namespace Go.Proofs.Ytegfdgmbhnfeeaa
open Go.RowKit
def RunePut (base : Nat) (G : Option (Nat × Nat)) (l : List UInt8) (w : World) (e : Ending) (w' : World) : Prop := ∃ v', e = .returned v' ∧ Buf w' base G v' l ∧ Fr base G w w' ∧ ¬ v' = .slice none 0 0
theorem nums_encR (c : Int) : nums (Lib.encodeRune c) = Lib.runeCells c := by
  rw [← Lib.byteCells_encodeRune]; rfl
/-- New cells as what is appended. -/
theorem src_cells (w : World) (L : List UInt8) (C : List Value) (hC : nums L = C) (n : Nat) (hn : L.length = n) : Src (w.alloc (Obj.cells C.toArray 5)) 22 (.slice (some ⟨w.heap.size, 0, none⟩) n n) L := by
  subst hC hn
  refine Src.slice w.heap.size 0 L.length L fun j hj => ?_
  rw [Nat.zero_add, cell_of_row _ _ j _ _ _ (alloc_new w _), List.getElem?_toArray]
  exact nums_get _ j hj
theorem enc_ne (r : Int) : ¬ Lib.encodeRune r = [] := fun h => by
  have := Lib.runeCells_le r
  rw [Lib.runeCells_length, h] at this
  exact absurd this.1 (by decide)
set_option maxRecDepth 100000 in
set_option maxHeartbeats 4000000 in
theorem appRune1 (r : Int) (h0 : 0 ≤ r) (h1 : r ≤ 127) (base : Nat) (G : Option (Nat × Nat)) (v : Value) (l : List UInt8) (w : World) (hB : Buf w base G v l) (hsz : l.length + 4 ≤ 140737488355328) (hbase : base ≤ w.heap.size) (hG : ∀ g o, G = some (g, o) → g < base) :
    Calls Try.prog 51 #[v, .int .i32 r] w (RunePut base G (l ++ Lib.encodeRune r) w) := by
  have e : nums (Lib.encodeRune r) = [.int .u8 (r)] := by rw [nums_encR]; unfold Lib.runeCells; rw [Lib.encodeRuneZ_one (by omega) (by omega)]; rfl
  have hl : (Lib.encodeRune r).length = 1 := by rw [← nums_length, e]; rfl
  have hne := enc_ne r
  have hS := src_cells w _ _ e 1 hl
  generalize Lib.encodeRune r = E at *
  have HS := Lib.hid hS
  have HB := Lib.hid (hB.alloc (Obj.cells #[.int .u8 (r)] 5))
  clear hS e hB
  have hwb : base ≤ (w.alloc (Obj.cells #[.int .u8 (r)] 5)).heap.size := by simp; omega
  have HFA : Hid (Fr base G w (w.alloc (Obj.cells #[.int .u8 (r)] 5))) := Fr.of_below ((Below.refl _ _).alloc hbase _) hG
  have HG := Lib.hid hG
  clear hG
  go_enter Try.func51, Try.ntmps51
  go_wp2_with (at_builtin; refine wpList_append_buf rfl (.tmp 8) (.tmp 11) 22 rfl base G v l rfl HB.out _ E rfl HS.out ?c1 hwb HG.out ?_)
  case c1 => omega
  intro v1 w1 hb1 _ hf1 hn1
  have hf := HFA.out.trans hf1
  have hnn : ¬ v1 = .slice none 0 0 := hn1
  clear hf1 hn1
  go_wp2
  go_ret
  exact ⟨v1, rfl, hb1, hf, hnn⟩
set_option maxRecDepth 100000 in
set_option maxHeartbeats 4000000 in
theorem appRune2 (r : Int) (h0 : 128 ≤ r) (h1 : r ≤ 2047) (base : Nat) (G : Option (Nat × Nat)) (v : Value) (l : List UInt8) (w : World) (hB : Buf w base G v l) (hsz : l.length + 4 ≤ 140737488355328) (hbase : base ≤ w.heap.size) (hG : ∀ g o, G = some (g, o) → g < base) :
    Calls Try.prog 55 #[v, .int .i32 r] w (RunePut base G (l ++ Lib.encodeRune r) w) := by
  have e : nums (Lib.encodeRune r) = [.int .u8 (192 + r / 64), .int .u8 (128 + r % 64)] := by rw [nums_encR]; unfold Lib.runeCells; rw [Lib.encodeRuneZ_two (by omega) (by omega)]; rfl
  have hl : (Lib.encodeRune r).length = 2 := by rw [← nums_length, e]; rfl
  have hne := enc_ne r
  have hS := src_cells w _ _ e 2 hl
  generalize Lib.encodeRune r = E at *
  have HS := Lib.hid hS
  have HB := Lib.hid (hB.alloc (Obj.cells #[.int .u8 (192 + r / 64), .int .u8 (128 + r % 64)] 5))
  clear hS e hB
  have hwb : base ≤ (w.alloc (Obj.cells #[.int .u8 (192 + r / 64), .int .u8 (128 + r % 64)] 5)).heap.size := by simp; omega
  have HFA : Hid (Fr base G w (w.alloc (Obj.cells #[.int .u8 (192 + r / 64), .int .u8 (128 + r % 64)] 5))) := Fr.of_below ((Below.refl _ _).alloc hbase _) hG
  have HG := Lib.hid hG
  clear hG
  go_enter Try.func55, Try.ntmps55
  go_wp2_with (at_builtin; refine wpList_append_buf rfl (.tmp 14) (.tmp 23) 22 rfl base G v l rfl HB.out _ E rfl HS.out ?c1 hwb HG.out ?_)
  case c1 => omega
  intro v1 w1 hb1 _ hf1 hn1
  have hf := HFA.out.trans hf1
  have hnn : ¬ v1 = .slice none 0 0 := hn1
  clear hf1 hn1
  go_wp2
  go_ret
  exact ⟨v1, rfl, hb1, hf, hnn⟩
set_option maxRecDepth 100000 in
set_option maxHeartbeats 4000000 in
theorem appRune3a (r : Int) (h0 : 2048 ≤ r) (h1 : r < 55296) (base : Nat) (G : Option (Nat × Nat)) (v : Value) (l : List UInt8) (w : World) (hB : Buf w base G v l) (hsz : l.length + 4 ≤ 140737488355328) (hbase : base ≤ w.heap.size) (hG : ∀ g o, G = some (g, o) → g < base) :
    Calls Try.prog 55 #[v, .int .i32 r] w (RunePut base G (l ++ Lib.encodeRune r) w) := by
  have e : nums (Lib.encodeRune r) = [.int .u8 (224 + r / 4096), .int .u8 (128 + r / 64 % 64), .int .u8 (128 + r % 64)] := by rw [nums_encR]; unfold Lib.runeCells; rw [Lib.encodeRuneZ_three (by omega)]; rfl
  have hl : (Lib.encodeRune r).length = 3 := by rw [← nums_length, e]; rfl
  have hne := enc_ne r
  have hS := src_cells w _ _ e 3 hl
  generalize Lib.encodeRune r = E at *
  have HS := Lib.hid hS
  have HB := Lib.hid (hB.alloc (Obj.cells #[.int .u8 (224 + r / 4096), .int .u8 (128 + r / 64 % 64), .int .u8 (128 + r % 64)] 5))
  clear hS e hB
  have hwb : base ≤ (w.alloc (Obj.cells #[.int .u8 (224 + r / 4096), .int .u8 (128 + r / 64 % 64), .int .u8 (128 + r % 64)] 5)).heap.size := by simp; omega
  have HFA : Hid (Fr base G w (w.alloc (Obj.cells #[.int .u8 (224 + r / 4096), .int .u8 (128 + r / 64 % 64), .int .u8 (128 + r % 64)] 5))) := Fr.of_below ((Below.refl _ _).alloc hbase _) hG
  have HG := Lib.hid hG
  clear hG
  go_enter Try.func55, Try.ntmps55
  go_wp2_with (at_builtin; refine wpList_append_buf rfl (.tmp 34) (.tmp 48) 22 rfl base G v l rfl HB.out _ E rfl HS.out ?c1 hwb HG.out ?_)
  case c1 => omega
  intro v1 w1 hb1 _ hf1 hn1
  have hf := HFA.out.trans hf1
  have hnn : ¬ v1 = .slice none 0 0 := hn1
  clear hf1 hn1
  go_wp2
  go_ret
  exact ⟨v1, rfl, hb1, hf, hnn⟩
set_option maxRecDepth 100000 in
set_option maxHeartbeats 4000000 in
theorem appRune3b (r : Int) (h0 : 57343 < r) (h1 : r ≤ 65535) (base : Nat) (G : Option (Nat × Nat)) (v : Value) (l : List UInt8) (w : World) (hB : Buf w base G v l) (hsz : l.length + 4 ≤ 140737488355328) (hbase : base ≤ w.heap.size) (hG : ∀ g o, G = some (g, o) → g < base) :
    Calls Try.prog 55 #[v, .int .i32 r] w (RunePut base G (l ++ Lib.encodeRune r) w) := by
  have e : nums (Lib.encodeRune r) = [.int .u8 (224 + r / 4096), .int .u8 (128 + r / 64 % 64), .int .u8 (128 + r % 64)] := by rw [nums_encR]; unfold Lib.runeCells; rw [Lib.encodeRuneZ_three (by omega)]; rfl
  have hl : (Lib.encodeRune r).length = 3 := by rw [← nums_length, e]; rfl
  have hne := enc_ne r
  have hS := src_cells w _ _ e 3 hl
  generalize Lib.encodeRune r = E at *
  have HS := Lib.hid hS
  have HB := Lib.hid (hB.alloc (Obj.cells #[.int .u8 (224 + r / 4096), .int .u8 (128 + r / 64 % 64), .int .u8 (128 + r % 64)] 5))
  clear hS e hB
  have hwb : base ≤ (w.alloc (Obj.cells #[.int .u8 (224 + r / 4096), .int .u8 (128 + r / 64 % 64), .int .u8 (128 + r % 64)] 5)).heap.size := by simp; omega
  have HFA : Hid (Fr base G w (w.alloc (Obj.cells #[.int .u8 (224 + r / 4096), .int .u8 (128 + r / 64 % 64), .int .u8 (128 + r % 64)] 5))) := Fr.of_below ((Below.refl _ _).alloc hbase _) hG
  have HG := Lib.hid hG
  clear hG
  go_enter Try.func55, Try.ntmps55
  go_wp2_with (at_builtin; refine wpList_append_buf rfl (.tmp 34) (.tmp 48) 22 rfl base G v l rfl HB.out _ E rfl HS.out ?c1 hwb HG.out ?_)
  case c1 => omega
  intro v1 w1 hb1 _ hf1 hn1
  have hf := HFA.out.trans hf1
  have hnn : ¬ v1 = .slice none 0 0 := hn1
  clear hf1 hn1
  go_wp2
  go_ret
  exact ⟨v1, rfl, hb1, hf, hnn⟩
set_option maxRecDepth 100000 in
set_option maxHeartbeats 4000000 in
theorem appRune4 (r : Int) (h0 : 65536 ≤ r) (h1 : r ≤ 1114111) (base : Nat) (G : Option (Nat × Nat)) (v : Value) (l : List UInt8) (w : World) (hB : Buf w base G v l) (hsz : l.length + 4 ≤ 140737488355328) (hbase : base ≤ w.heap.size) (hG : ∀ g o, G = some (g, o) → g < base) :
    Calls Try.prog 55 #[v, .int .i32 r] w (RunePut base G (l ++ Lib.encodeRune r) w) := by
  have e : nums (Lib.encodeRune r) = [.int .u8 (240 + r / 262144), .int .u8 (128 + r / 4096 % 64), .int .u8 (128 + r / 64 % 64), .int .u8 (128 + r % 64)] := by rw [nums_encR]; unfold Lib.runeCells; rw [Lib.encodeRuneZ_four (by omega) (by omega)]; rfl
  have hl : (Lib.encodeRune r).length = 4 := by rw [← nums_length, e]; rfl
  have hne := enc_ne r
  have hS := src_cells w _ _ e 4 hl
  generalize Lib.encodeRune r = E at *
  have HS := Lib.hid hS
  have HB := Lib.hid (hB.alloc (Obj.cells #[.int .u8 (240 + r / 262144), .int .u8 (128 + r / 4096 % 64), .int .u8 (128 + r / 64 % 64), .int .u8 (128 + r % 64)] 5))
  clear hS e hB
  have hwb : base ≤ (w.alloc (Obj.cells #[.int .u8 (240 + r / 262144), .int .u8 (128 + r / 4096 % 64), .int .u8 (128 + r / 64 % 64), .int .u8 (128 + r % 64)] 5)).heap.size := by simp; omega
  have HFA : Hid (Fr base G w (w.alloc (Obj.cells #[.int .u8 (240 + r / 262144), .int .u8 (128 + r / 4096 % 64), .int .u8 (128 + r / 64 % 64), .int .u8 (128 + r % 64)] 5))) := Fr.of_below ((Below.refl _ _).alloc hbase _) hG
  have HG := Lib.hid hG
  clear hG
  go_enter Try.func55, Try.ntmps55
  go_wp2_with (at_builtin; refine wpList_append_buf rfl (.tmp 57) (.tmp 76) 22 rfl base G v l rfl HB.out _ E rfl HS.out ?c1 hwb HG.out ?_)
  case c1 => omega
  intro v1 w1 hb1 _ hf1 hn1
  have hf := HFA.out.trans hf1
  have hnn : ¬ v1 = .slice none 0 0 := hn1
  clear hf1 hn1
  go_wp2
  go_ret
  exact ⟨v1, rfl, hb1, hf, hnn⟩
theorem appendRune (r : Int) (h0 : 0 ≤ r) (h1 : r ≤ 1114111) (h2 : ¬ (55296 ≤ r ∧ r ≤ 57343)) (base : Nat) (G : Option (Nat × Nat)) (v : Value) (l : List UInt8) (w : World) (hB : Buf w base G v l) (hsz : l.length + 4 ≤ 140737488355328) (hbase : base ≤ w.heap.size) (hG : ∀ g o, G = some (g, o) → g < base) :
    Calls Try.prog 51 #[v, .int .i32 r] w (RunePut base G (l ++ Lib.encodeRune r) w) := by
  by_cases a : r ≤ 127
  · exact appRune1 r h0 a base G v l w hB hsz hbase hG
  · have hc : Calls Try.prog 55 #[v, .int .i32 r] w (RunePut base G (l ++ Lib.encodeRune r) w) := by
      by_cases b : r ≤ 2047
      · exact appRune2 r (by omega) b base G v l w hB hsz hbase hG
      by_cases c : r < 55296
      · exact appRune3a r (by omega) c base G v l w hB hsz hbase hG
      by_cases d : r ≤ 65535
      · exact appRune3b r (by omega) d base G v l w hB hsz hbase hG
      · exact appRune4 r (by omega) h1 base G v l w hB hsz hbase hG
    have HC := Lib.hid hc
    have a' : 127 < r := by omega
    generalize l ++ Lib.encodeRune r = L at HC ⊢
    clear hc hB hG
    go_enter Try.func51, Try.ntmps51
    go_wp2_with fail
    refine HC.out.mono ?_
    rintro e w1 ⟨v1, rfl, hb, hf, hn⟩
    have HB := Lib.hid hb
    have HF := Lib.hid hf
    have HN := Lib.hid hn
    clear hb hf hn
    go_wp2
    go_ret
    exact ⟨v1, rfl, HB.out, HF.out, HN.out⟩
end Go.Proofs.Ytegfdgmbhnfeeaa
