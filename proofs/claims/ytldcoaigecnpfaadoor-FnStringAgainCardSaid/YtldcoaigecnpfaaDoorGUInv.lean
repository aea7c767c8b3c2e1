/- Plain words: a text between quotation marks; how far it has been read, and how far written. Of no program. utf8.AppendRune onto bytes that a call appends to, walked. -/
import Derived.Test.YtldcoaigecnpfaaDoorGRdQuoted
import Derived.Test.YtldcoaigecnpfaaDoorGBytes
import Derived.Lib.RuneBytes
import Derived.Laws.BitsLemmas
import Derived.Laws.BitsAllLaws
import Derived.Lib.Hide
namespace Go.Proofs.YtldcoaigecnpfaaDoor
open Go.RowKit
/-- Between quotation marks. -/
def qT (m : List UInt8) : List UInt8 := 34 :: (m ++ [34])
theorem qT_length (m : List UInt8) : (qT m).length = m.length + 2 := by simp [qT]
theorem qT_drop (m : List UInt8) (k : Nat) (hk : k ≤ m.length) : (qT m).drop (k + 1) = m.drop k ++ [34] := by
  unfold qT; rw [List.drop_succ_cons, List.drop_append_of_le_length hk]
theorem qT_at (m : List UInt8) (k : Nat) (hk : k < m.length) : atL (qT m) (k + 1) = (natL (m.drop k) 0 : Int) := by
  rw [natL_drop, ← natL_at]
  show atL (m ++ [34]) k = _
  unfold atL
  rw [List.getD_eq_getElem?_getD, List.getD_eq_getElem?_getD, List.getElem?_append_left hk]; rfl
theorem qT_end (m : List UInt8) : atL (qT m) (m.length + 1) = 34 := by
  show atL (m ++ [34]) m.length = 34
  unfold atL
  rw [List.getD_eq_getElem?_getD, List.getElem?_append_right (Nat.le_refl _), Nat.sub_self]; rfl
theorem qT_part (m : List UInt8) (i k : Nat) (hik : i ≤ k) (hk : k ≤ m.length) : ((qT m).drop (i + 1)).take (k - i) = (m.drop i).take (k - i) := by
  rw [qT_drop m i (by omega), List.take_append_of_le_length (by rw [List.length_drop]; omega)]
theorem qT_rl (m : List UInt8) (k : Nat) (hk : k < m.length) : rlL ((qT m).drop (k + 1)) = rlL (m.drop k) ∧ decW ((qT m).drop (k + 1)) = decW (m.drop k) := by
  rw [qT_drop m k (by omega)]
  have hl : (m.drop k).length = m.length - k := List.length_drop
  have h34 : atL (m.drop k ++ [34]) (m.drop k).length = 34 := by
    unfold atL
    rw [List.getD_eq_getElem?_getD, List.getElem?_append_right (Nat.le_refl _), Nat.sub_self]; rfl
  have h1 := rl_cut (m.drop k ++ [34]) (m.drop k).length (by omega) (by simp) h34
  have h2 := decW_cut (m.drop k ++ [34]) (m.drop k).length (by omega) (by simp) h34
  rw [List.take_left] at h1 h2
  exact ⟨h1.symm, h2.symm⟩
theorem qT_nat (m : List UInt8) (k j : Nat) (hk : k + j < m.length) : natL ((qT m).drop (k + 1)) j = natL (m.drop k) j := by
  rw [qT_drop m k (by omega)]
  unfold natL
  rw [List.getD_eq_getElem?_getD, List.getD_eq_getElem?_getD, List.getElem?_append_left (by rw [List.length_drop]; omega)]
structure UInv (m : List UInt8) (k i : Nat) (out : List UInt8) (bad : Bool) : Prop where
  ik : i ≤ k
  km : k ≤ m.length
  eq : dcL m = out ++ (m.drop i).take (k - i) ++ dcL (m.drop k)
  ok : okL (m.drop k) = true
  nt : neatL m = true → bad = false ∧ neatL (m.drop k) = true
theorem UInv.start {m : List UInt8} (h : okL m = true) : UInv m 0 0 [] false := ⟨Nat.le_refl _, Nat.zero_le _, by simp, by simpa using h, fun q => ⟨rfl, by simpa using q⟩⟩
theorem UInv.pos {m : List UInt8} {k : Nat} (h : k < m.length) : 0 < (m.drop k).length := by rw [List.length_drop]; omega
theorem UInv.okc {m : List UInt8} {k i : Nat} {out : List UInt8} {bad : Bool} (h : UInv m k i out bad) (hk : k < m.length) : okPc (m.drop k) = true := (okL_step h.ok (UInv.pos hk)).1
theorem UInv.wle {m : List UInt8} {k i : Nat} {out : List UInt8} {bad : Bool} (h : UInv m k i out bad) (hk : k < m.length) : k + dcW (m.drop k) ≤ m.length := by
  have := dcW_le _ (UInv.pos hk) (h.okc hk)
  rw [List.length_drop] at this; omega
theorem take_moreD (m : List UInt8) (i n w : Nat) (h : i ≤ n) : (m.drop i).take (n + w - i) = (m.drop i).take (n - i) ++ (m.drop n).take w := by
  rw [show n + w - i = (n - i) + w by omega, List.take_add, List.drop_drop, show i + (n - i) = n by omega]
theorem UInv.raw {m : List UInt8} {k i : Nat} {out : List UInt8} {bad : Bool} (h : UInv m k i out bad) (hk : k < m.length) (w : Nat) (hw : dcW (m.drop k) = w) (hc : dcC (m.drop k) = (m.drop k).take w) : UInv m (k + w) i out bad := by
  have hwl := h.wle hk
  have hp := UInv.pos hk
  have hik := h.ik
  have ho := (okL_step h.ok hp).2
  have hn := neatL_step (m.drop k) hp
  rw [hw] at hwl ho hn
  rw [List.drop_drop] at ho hn
  refine ⟨by omega, hwl, ?_, ho, fun q => ?_⟩
  · rw [h.eq, dcL_step _ hp, hw, hc, List.drop_drop, take_moreD m i k w hik]
    simp only [List.append_assoc]
  · obtain ⟨a, b⟩ := h.nt q
    rw [hn, Bool.and_eq_true] at b
    exact ⟨a, b.2⟩
theorem UInv.esc {m : List UInt8} {k i : Nat} {out : List UInt8} {bad : Bool} (h : UInv m k i out bad) (hk : k < m.length) (w : Nat) (E : List UInt8) (bad' : Bool) (hw : dcW (m.drop k) = w) (hc : dcC (m.drop k) = E) (hb : neatC (m.drop k) = true → bad' = bad) : UInv m (k + w) (k + w) (out ++ (m.drop i).take (k - i) ++ E) bad' := by
  have hwl := h.wle hk
  have hp := UInv.pos hk
  have ho := (okL_step h.ok hp).2
  have hn := neatL_step (m.drop k) hp
  rw [hw] at hwl ho hn
  rw [List.drop_drop] at ho hn
  refine ⟨Nat.le_refl _, hwl, ?_, ho, fun q => ?_⟩
  · rw [h.eq, dcL_step _ hp, hw, hc, List.drop_drop, Nat.sub_self, List.take_zero]
    simp only [List.append_assoc, List.append_nil]
  · obtain ⟨a, b⟩ := h.nt q
    rw [hn, Bool.and_eq_true] at b
    exact ⟨by rw [hb b.1, a], b.2⟩
theorem UInv.fin {m : List UInt8} {i : Nat} {out : List UInt8} {bad : Bool} (h : UInv m m.length i out bad) : dcL m = out ++ (m.drop i).take (m.length - i) ∧ (neatL m = true → bad = false) := by
  refine ⟨?_, fun q => (h.nt q).1⟩
  have := h.eq
  rw [List.drop_of_length_le (Nat.le_refl m.length)] at this
  have e : dcL ([] : List UInt8) = [] := rfl
  rw [e, List.append_nil] at this
  exact this
theorem UInv.bound {m : List UInt8} {k i : Nat} {out : List UInt8} {bad : Bool} (h : UInv m k i out bad) : out.length + (k - i) ≤ 4 * m.length := by
  have h1 := congrArg List.length h.eq
  have hk := h.km
  have hi := h.ik
  simp only [List.length_append, List.length_take, List.length_drop] at h1
  have := dcL_length m
  omega
/-- A byte of ASCII that stands for itself. -/
theorem plain_piece (l : List UInt8) (_h : 0 < l.length) (h1 : natL l 0 < 128) (h2 : ¬ natL l 0 = 92) : dcW l = 1 ∧ dcC l = l.take 1 := by
  have hd := decW_ascii l h1
  unfold dcW dcC
  rw [if_neg h2, if_neg h2]
  refine ⟨hd.2, ?_⟩
  unfold mendC
  rw [if_neg (by rw [hd.1]; omega), hd.2]
end Go.Proofs.YtldcoaigecnpfaaDoor
namespace Go.Proofs.YtldcoaigecnpfaaDoor
open Go.RowKit
def RunePut (base : Nat) (G : Option (Nat × Nat)) (l : List UInt8) (w : World) (e : Ending) (w' : World) : Prop := ∃ v', e = .returned v' ∧ Buf w' base G v' l ∧ Fr base G w w' ∧ ¬ v' = .slice none 0 0
theorem nums_encR (c : Int) : nums (Lib.encodeRune c) = Lib.runeCells c := by
  rw [← Lib.byteCells_encodeRune]; rfl
/-- New cells as what is appended. -/
theorem src_cells (w : World) (L : List UInt8) (C : List Value) (hC : nums L = C) (n : Nat) (hn : L.length = n) : Src (w.alloc (Obj.cells C.toArray 5)) 23 (.slice (some ⟨w.heap.size, 0, none⟩) n n) L := by
  subst hC hn
  refine Src.slice w.heap.size 0 L.length L fun j hj => ?_
  rw [Nat.zero_add, cell_of_row _ _ j _ _ _ (alloc_new w _), List.getElem?_toArray]
  exact nums_get _ j hj
theorem enc_ne (r : Int) : ¬ Lib.encodeRune r = [] := fun h => by
  have := Lib.runeCells_le r
  rw [Lib.runeCells_length, h] at this
  exact absurd this.1 (by decide)
set_option maxRecDepth 100000 in
set_option maxHeartbeats 4000000 in
theorem appRune1 (r : Int) (h0 : 0 ≤ r) (h1 : r ≤ 127) (base : Nat) (G : Option (Nat × Nat)) (v : Value) (l : List UInt8) (w : World) (hB : Buf w base G v l) (hsz : l.length + 4 ≤ 140737488355328) (hbase : base ≤ w.heap.size) (hG : ∀ g o, G = some (g, o) → g < base) :
    Calls Tryd.prog 74 #[v, .int .i32 r] w (RunePut base G (l ++ Lib.encodeRune r) w) := by
  have e : nums (Lib.encodeRune r) = [.int .u8 (r)] := by rw [nums_encR]; unfold Lib.runeCells; rw [Lib.encodeRuneZ_one (by omega) (by omega)]; rfl
  have hl : (Lib.encodeRune r).length = 1 := by rw [← nums_length, e]; rfl
  have hne := enc_ne r
  have hS := src_cells w _ _ e 1 hl
  generalize Lib.encodeRune r = E at *
  have HS := Lib.hid hS
  have HB := Lib.hid (hB.alloc (Obj.cells #[.int .u8 (r)] 5))
  clear hS e hB
  have hwb : base ≤ (w.alloc (Obj.cells #[.int .u8 (r)] 5)).heap.size := by simp; omega
  have HFA : Hid (Fr base G w (w.alloc (Obj.cells #[.int .u8 (r)] 5))) := Fr.of_below ((Below.refl _ _).alloc hbase _) hG
  have HG := Lib.hid hG
  clear hG
  go_enter Tryd.func74, Tryd.ntmps74
  go_wp2_with (at_builtin; refine wpList_append_buf rfl (.tmp 8) (.tmp 11) 23 rfl base G v l rfl HB.out _ E rfl HS.out ?c1 hwb HG.out ?_)
  case c1 => omega
  intro v1 w1 hb1 _ hf1 hn1
  have hf := HFA.out.trans hf1
  have hnn : ¬ v1 = .slice none 0 0 := hn1
  clear hf1 hn1
  go_wp2
  go_ret
  exact ⟨v1, rfl, hb1, hf, hnn⟩
set_option maxRecDepth 100000 in
set_option maxHeartbeats 4000000 in
theorem appRune2 (r : Int) (h0 : 128 ≤ r) (h1 : r ≤ 2047) (base : Nat) (G : Option (Nat × Nat)) (v : Value) (l : List UInt8) (w : World) (hB : Buf w base G v l) (hsz : l.length + 4 ≤ 140737488355328) (hbase : base ≤ w.heap.size) (hG : ∀ g o, G = some (g, o) → g < base) :
    Calls Tryd.prog 82 #[v, .int .i32 r] w (RunePut base G (l ++ Lib.encodeRune r) w) := by
  have e : nums (Lib.encodeRune r) = [.int .u8 (192 + r / 64), .int .u8 (128 + r % 64)] := by rw [nums_encR]; unfold Lib.runeCells; rw [Lib.encodeRuneZ_two (by omega) (by omega)]; rfl
  have hl : (Lib.encodeRune r).length = 2 := by rw [← nums_length, e]; rfl
  have hne := enc_ne r
  have hS := src_cells w _ _ e 2 hl
  generalize Lib.encodeRune r = E at *
  have HS := Lib.hid hS
  have HB := Lib.hid (hB.alloc (Obj.cells #[.int .u8 (192 + r / 64), .int .u8 (128 + r % 64)] 5))
  clear hS e hB
  have hwb : base ≤ (w.alloc (Obj.cells #[.int .u8 (192 + r / 64), .int .u8 (128 + r % 64)] 5)).heap.size := by simp; omega
  have HFA : Hid (Fr base G w (w.alloc (Obj.cells #[.int .u8 (192 + r / 64), .int .u8 (128 + r % 64)] 5))) := Fr.of_below ((Below.refl _ _).alloc hbase _) hG
  have HG := Lib.hid hG
  clear hG
  go_enter Tryd.func82, Tryd.ntmps82
  go_wp2_with (at_builtin; refine wpList_append_buf rfl (.tmp 14) (.tmp 23) 23 rfl base G v l rfl HB.out _ E rfl HS.out ?c1 hwb HG.out ?_)
  case c1 => omega
  intro v1 w1 hb1 _ hf1 hn1
  have hf := HFA.out.trans hf1
  have hnn : ¬ v1 = .slice none 0 0 := hn1
  clear hf1 hn1
  go_wp2
  go_ret
  exact ⟨v1, rfl, hb1, hf, hnn⟩
set_option maxRecDepth 100000 in
set_option maxHeartbeats 4000000 in
theorem appRune3a (r : Int) (h0 : 2048 ≤ r) (h1 : r < 55296) (base : Nat) (G : Option (Nat × Nat)) (v : Value) (l : List UInt8) (w : World) (hB : Buf w base G v l) (hsz : l.length + 4 ≤ 140737488355328) (hbase : base ≤ w.heap.size) (hG : ∀ g o, G = some (g, o) → g < base) :
    Calls Tryd.prog 82 #[v, .int .i32 r] w (RunePut base G (l ++ Lib.encodeRune r) w) := by
  have e : nums (Lib.encodeRune r) = [.int .u8 (224 + r / 4096), .int .u8 (128 + r / 64 % 64), .int .u8 (128 + r % 64)] := by rw [nums_encR]; unfold Lib.runeCells; rw [Lib.encodeRuneZ_three (by omega)]; rfl
  have hl : (Lib.encodeRune r).length = 3 := by rw [← nums_length, e]; rfl
  have hne := enc_ne r
  have hS := src_cells w _ _ e 3 hl
  generalize Lib.encodeRune r = E at *
  have HS := Lib.hid hS
  have HB := Lib.hid (hB.alloc (Obj.cells #[.int .u8 (224 + r / 4096), .int .u8 (128 + r / 64 % 64), .int .u8 (128 + r % 64)] 5))
  clear hS e hB
  have hwb : base ≤ (w.alloc (Obj.cells #[.int .u8 (224 + r / 4096), .int .u8 (128 + r / 64 % 64), .int .u8 (128 + r % 64)] 5)).heap.size := by simp; omega
  have HFA : Hid (Fr base G w (w.alloc (Obj.cells #[.int .u8 (224 + r / 4096), .int .u8 (128 + r / 64 % 64), .int .u8 (128 + r % 64)] 5))) := Fr.of_below ((Below.refl _ _).alloc hbase _) hG
  have HG := Lib.hid hG
  clear hG
  go_enter Tryd.func82, Tryd.ntmps82
  go_wp2_with (at_builtin; refine wpList_append_buf rfl (.tmp 34) (.tmp 48) 23 rfl base G v l rfl HB.out _ E rfl HS.out ?c1 hwb HG.out ?_)
  case c1 => omega
  intro v1 w1 hb1 _ hf1 hn1
  have hf := HFA.out.trans hf1
  have hnn : ¬ v1 = .slice none 0 0 := hn1
  clear hf1 hn1
  go_wp2
  go_ret
  exact ⟨v1, rfl, hb1, hf, hnn⟩
set_option maxRecDepth 100000 in
set_option maxHeartbeats 4000000 in
theorem appRune3b (r : Int) (h0 : 57343 < r) (h1 : r ≤ 65535) (base : Nat) (G : Option (Nat × Nat)) (v : Value) (l : List UInt8) (w : World) (hB : Buf w base G v l) (hsz : l.length + 4 ≤ 140737488355328) (hbase : base ≤ w.heap.size) (hG : ∀ g o, G = some (g, o) → g < base) :
    Calls Tryd.prog 82 #[v, .int .i32 r] w (RunePut base G (l ++ Lib.encodeRune r) w) := by
  have e : nums (Lib.encodeRune r) = [.int .u8 (224 + r / 4096), .int .u8 (128 + r / 64 % 64), .int .u8 (128 + r % 64)] := by rw [nums_encR]; unfold Lib.runeCells; rw [Lib.encodeRuneZ_three (by omega)]; rfl
  have hl : (Lib.encodeRune r).length = 3 := by rw [← nums_length, e]; rfl
  have hne := enc_ne r
  have hS := src_cells w _ _ e 3 hl
  generalize Lib.encodeRune r = E at *
  have HS := Lib.hid hS
  have HB := Lib.hid (hB.alloc (Obj.cells #[.int .u8 (224 + r / 4096), .int .u8 (128 + r / 64 % 64), .int .u8 (128 + r % 64)] 5))
  clear hS e hB
  have hwb : base ≤ (w.alloc (Obj.cells #[.int .u8 (224 + r / 4096), .int .u8 (128 + r / 64 % 64), .int .u8 (128 + r % 64)] 5)).heap.size := by simp; omega
  have HFA : Hid (Fr base G w (w.alloc (Obj.cells #[.int .u8 (224 + r / 4096), .int .u8 (128 + r / 64 % 64), .int .u8 (128 + r % 64)] 5))) := Fr.of_below ((Below.refl _ _).alloc hbase _) hG
  have HG := Lib.hid hG
  clear hG
  go_enter Tryd.func82, Tryd.ntmps82
  go_wp2_with (at_builtin; refine wpList_append_buf rfl (.tmp 34) (.tmp 48) 23 rfl base G v l rfl HB.out _ E rfl HS.out ?c1 hwb HG.out ?_)
  case c1 => omega
  intro v1 w1 hb1 _ hf1 hn1
  have hf := HFA.out.trans hf1
  have hnn : ¬ v1 = .slice none 0 0 := hn1
  clear hf1 hn1
  go_wp2
  go_ret
  exact ⟨v1, rfl, hb1, hf, hnn⟩
set_option maxRecDepth 100000 in
set_option maxHeartbeats 4000000 in
theorem appRune4 (r : Int) (h0 : 65536 ≤ r) (h1 : r ≤ 1114111) (base : Nat) (G : Option (Nat × Nat)) (v : Value) (l : List UInt8) (w : World) (hB : Buf w base G v l) (hsz : l.length + 4 ≤ 140737488355328) (hbase : base ≤ w.heap.size) (hG : ∀ g o, G = some (g, o) → g < base) :
    Calls Tryd.prog 82 #[v, .int .i32 r] w (RunePut base G (l ++ Lib.encodeRune r) w) := by
  have e : nums (Lib.encodeRune r) = [.int .u8 (240 + r / 262144), .int .u8 (128 + r / 4096 % 64), .int .u8 (128 + r / 64 % 64), .int .u8 (128 + r % 64)] := by rw [nums_encR]; unfold Lib.runeCells; rw [Lib.encodeRuneZ_four (by omega) (by omega)]; rfl
  have hl : (Lib.encodeRune r).length = 4 := by rw [← nums_length, e]; rfl
  have hne := enc_ne r
  have hS := src_cells w _ _ e 4 hl
  generalize Lib.encodeRune r = E at *
  have HS := Lib.hid hS
  have HB := Lib.hid (hB.alloc (Obj.cells #[.int .u8 (240 + r / 262144), .int .u8 (128 + r / 4096 % 64), .int .u8 (128 + r / 64 % 64), .int .u8 (128 + r % 64)] 5))
  clear hS e hB
  have hwb : base ≤ (w.alloc (Obj.cells #[.int .u8 (240 + r / 262144), .int .u8 (128 + r / 4096 % 64), .int .u8 (128 + r / 64 % 64), .int .u8 (128 + r % 64)] 5)).heap.size := by simp; omega
  have HFA : Hid (Fr base G w (w.alloc (Obj.cells #[.int .u8 (240 + r / 262144), .int .u8 (128 + r / 4096 % 64), .int .u8 (128 + r / 64 % 64), .int .u8 (128 + r % 64)] 5))) := Fr.of_below ((Below.refl _ _).alloc hbase _) hG
  have HG := Lib.hid hG
  clear hG
  go_enter Tryd.func82, Tryd.ntmps82
  go_wp2_with (at_builtin; refine wpList_append_buf rfl (.tmp 57) (.tmp 76) 23 rfl base G v l rfl HB.out _ E rfl HS.out ?c1 hwb HG.out ?_)
  case c1 => omega
  intro v1 w1 hb1 _ hf1 hn1
  have hf := HFA.out.trans hf1
  have hnn : ¬ v1 = .slice none 0 0 := hn1
  clear hf1 hn1
  go_wp2
  go_ret
  exact ⟨v1, rfl, hb1, hf, hnn⟩
theorem appendRune (r : Int) (h0 : 0 ≤ r) (h1 : r ≤ 1114111) (h2 : ¬ (55296 ≤ r ∧ r ≤ 57343)) (base : Nat) (G : Option (Nat × Nat)) (v : Value) (l : List UInt8) (w : World) (hB : Buf w base G v l) (hsz : l.length + 4 ≤ 140737488355328) (hbase : base ≤ w.heap.size) (hG : ∀ g o, G = some (g, o) → g < base) :
    Calls Tryd.prog 74 #[v, .int .i32 r] w (RunePut base G (l ++ Lib.encodeRune r) w) := by
  by_cases a : r ≤ 127
  · exact appRune1 r h0 a base G v l w hB hsz hbase hG
  · have hc : Calls Tryd.prog 82 #[v, .int .i32 r] w (RunePut base G (l ++ Lib.encodeRune r) w) := by
      by_cases b : r ≤ 2047
      · exact appRune2 r (by omega) b base G v l w hB hsz hbase hG
      by_cases c : r < 55296
      · exact appRune3a r (by omega) c base G v l w hB hsz hbase hG
      by_cases d : r ≤ 65535
      · exact appRune3b r (by omega) d base G v l w hB hsz hbase hG
      · exact appRune4 r (by omega) h1 base G v l w hB hsz hbase hG
    have HC := Lib.hid hc
    have a' : 127 < r := by omega
    generalize l ++ Lib.encodeRune r = L at HC ⊢
    clear hc hB hG
    go_enter Tryd.func74, Tryd.ntmps74
    go_wp2_with fail
    refine HC.out.mono ?_
    rintro e w1 ⟨v1, rfl, hb, hf, hn⟩
    have HB := Lib.hid hb
    have HF := Lib.hid hf
    have HN := Lib.hid hn
    clear hb hf hn
    go_wp2
    go_ret
    exact ⟨v1, rfl, HB.out, HF.out, HN.out⟩
end Go.Proofs.YtldcoaigecnpfaaDoor
