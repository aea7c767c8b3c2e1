/- The reference's Width, walked. The reference's Width and Mended, walked. The reference's Quote without marks, walked (with quotedPart, marked, unitText, digit). impl.Quote (a string's text behind another text), walked. The reference's Quote without marks, walked. -/
import Derived.Test.YtldcoaigecnpfaaDoorGReadRune
import Derived.Test.YtldcoaigecnpfaaDoorGClose
import Derived.Test.YtldcoaigecnpfaaDoorGBytes
import Derived.Test.YtldcoaigecnpfaaDoorGLaidEsc
import Derived.Test.YtldcoaigecnpfaaDoorGU4
import Derived.Test.YtldcoaigecnpfaaDoorGAppendQuote
import Derived.Lib.Strings
import Derived.Lib.IndexBytes
import Derived.Outline
import Derived.Deep.RegionLaw
import Derived.Laws.BytesArg
namespace Go.Proofs.YtldcoaigecnpfaaDoor
open Go.RowKit
/-- A new block that alone has been written. -/
theorem grown_new {w w' : World} {o : Obj} (h : (w.alloc o).grownBy w' (some w.heap.size)) : Below w.heap.size w w' :=
  ⟨h.os, h.tape, h.output, by have := h.size; simp at this; omega, fun k hk => (h.block k (by simp; omega) (by intro e; have := Option.some.inj e; omega)).trans (alloc_old w o k hk)⟩
def WidthPost (n : Nat) (w : World) (e : Ending) (w' : World) : Prop := e = .returned (.int .i64 n) ∧ Below w.heap.size w w'
/-- The bytes of the character at the head, or 0. -/
def widL (l : List UInt8) : Nat := (rlL l).toNat
theorem widL_zero (l : List UInt8) (h : 0 < l.length) : widL l = 0 ↔ rlL l = 0 := by have := rlL_range l h; unfold widL; omega
theorem widL_dec (l : List UInt8) (_h : 0 < l.length) (h0 : ¬ rlL l = 0) : widL l = decW l := by unfold widL decW; rw [if_neg h0]
set_option maxRecDepth 100000 in
set_option maxHeartbeats 2000000 in
theorem width (s : ByteArray) (k : Nat) (w : World) (hs : s.size ≤ 140737488355328) (hk : k < s.size) :
    Calls Tryd.prog 26 #[.string s, .int .i64 k] w (WidthPost (widL (s.data.toList.drop k)) w) := by
  have hpos : 0 < (s.data.toList.drop k).length := by rw [List.length_drop, size_list]; omega
  have hrange := rlL_range _ hpos
  have hat := at_eq s k hk
  by_cases hlo : atL s.data.toList k < 128
  · have hw : widL (s.data.toList.drop k) = 1 := by
      have := (decW_ascii (s.data.toList.drop k) (by rw [natL_drop]; rw [natL_at] at hlo; simp at hlo ⊢; omega)).1
      unfold widL; rw [this]; rfl
    rw [hw]
    rw [← hat] at hlo
    clear hat hpos hrange hw
    go_enter Tryd.func26, Tryd.ntmps26
    go_wp2
    go_ret
    exact ⟨rfl, Below.refl _ _⟩
  · have hhi : 128 ≤ atL s.data.toList k := by omega
    have hblk := alloc_new w (Obj.cells #[.string s, .int .i64 k, .bool false, .bool false, .int .i64 0, .bool false] 57)
    have hrd : RdAt (w.alloc (Obj.cells #[.string s, .int .i64 k, .bool false, .bool false, .int .i64 0, .bool false] 57)) w.heap.size s k false false 0 false :=
      ⟨cell_of_row _ _ 0 _ _ _ hblk, cell_of_row _ _ 1 _ _ _ hblk, cell_of_row _ _ 2 _ _ _ hblk, cell_of_row _ _ 3 _ _ _ hblk, cell_of_row _ _ 4 _ _ _ hblk, cell_of_row _ _ 5 _ _ _ hblk, fun j => by simp only [World.frozen?, hblk, Bool.and_eq_false_iff, decide_eq_false_iff_not]; omega, by simp⟩
    have hrune := rune w.heap.size s k false false 0 false _ hrd hs hk hhi
    have hhi' : ¬ (((s[k]'hk).toNat : Nat) : Int) < 128 := by rw [hat]; omega
    have HR := Lib.hid hrune
    by_cases h0 : rlL (s.data.toList.drop k) = 0
    · have hw : widL (s.data.toList.drop k) = 0 := (widL_zero _ hpos).2 h0
      rw [hw]
      have H0 := Lib.hid h0
      clear hat hpos hrange hw hrune hrd hblk hlo hhi h0
      go_enter Tryd.func26, Tryd.ntmps26
      go_wp2_with fail
      refine HR.out.mono ?_
      rintro e w' hp
      obtain ⟨rfl, _, hg⟩ := hp.2 H0.out
      have HB := Lib.hid (grown_new hg)
      clear hp hg HR
      go_wp2
      go_ret
      exact ⟨rfl, HB.out⟩
    · have hw := widL_dec _ hpos h0
      rw [hw]
      have hdr := decW_range _ hpos
      rw [List.length_drop, size_list] at hdr
      have hok : Hid (∀ e w', RunePost w.heap.size s k false false 0 false (w.alloc (Obj.cells #[.string s, .int .i64 k, .bool false, .bool false, .int .i64 0, .bool false] 57)) e w' → ValPost (.bool true) w.heap.size s (k + decW (s.data.toList.drop k)) false false 0 false (w.alloc (Obj.cells #[.string s, .int .i64 k, .bool false, .bool false, .int .i64 0, .bool false] 57)) e w') := fun e w' hp => hp.1 h0
      clear hat hpos hrange hw hrune hrd hblk hlo hhi h0
      generalize decW (s.data.toList.drop k) = n at hdr hok ⊢
      obtain ⟨n1, n2, n3⟩ := hdr
      go_enter Tryd.func26, Tryd.ntmps26
      go_wp2_with fail
      refine HR.out.mono ?_
      rintro e w' hp
      obtain ⟨rfl, hr, hg⟩ := hok.out e w' hp
      have c1 := hr.c1
      have hz := hr.lt
      have HB := Lib.hid (grown_new hg)
      have e1 : ((k + n : Nat) : Int) - (k : Int) = (n : Int) := by omega
      have e2 : IntKind.i64.wrap (((k + n : Nat) : Int) - (k : Int)) = (n : Int) := by rw [IntKind.wrap_i64]; omega
      clear hp hg hr HR hok
      go_wp2
      go_ret
      exact ⟨ret_i64 (by omega), HB.out⟩
/-- A part of a text. -/
theorem src_sub {w : World} (s : ByteArray) (a b : Nat) : Src w 9 (.string (s.extract a b)) ((s.data.toList.drop a).take (b - a)) := by
  have := Src.text (s.extract a b) (w := w)
  rw [Lib.extract_data] at this
  exact this
theorem Buf.empty (w : World) : Buf (w.alloc (Obj.cells #[] 5)) w.heap.size none (.slice (some ⟨w.heap.size, 0, none⟩) 0 0) [] :=
  .inr ⟨w.heap.size, 0, 0, #[], (0, 0), rfl, .inl (Nat.le_refl _), alloc_new w _, Nat.le_refl _, Nat.zero_le _, Nat.le_refl _, .inl (Nat.le_refl _), fun _j hj => absurd hj (Nat.not_lt_zero _)⟩
theorem Buf.belowA {w w' : World} {base : Nat} {G : Option (Nat × Nat)} {v : Value} {l : List UInt8} (h : Buf w base G v l) (hb : Below w.heap.size w w') : Buf w' base G v l := h.below hb h.block
theorem Fr.of_belowA {base : Nat} {G : Option (Nat × Nat)} {w w' : World} (h : Below w.heap.size w w') (hbase : base ≤ w.heap.size) (hG : ∀ g o, G = some (g, o) → g < base) : Fr base G w w' := Fr.of_below (h.mono hbase) hG
end Go.Proofs.YtldcoaigecnpfaaDoor
namespace Go.Proofs.YtldcoaigecnpfaaDoor
open Go.RowKit
theorem mendC_length (l : List UInt8) (hl : 0 < l.length) : (mendC l).length ≤ 3 * decW l := by
  have hw := decW_range l hl
  unfold mendC
  split
  · show 3 ≤ _; omega
  · rw [List.length_take]; omega
def StrBool (L : List UInt8) (b : Bool) (w : World) (e : Ending) (w' : World) : Prop := e = .returned (.tuple #[.string ⟨L.toArray⟩, .bool b]) ∧ Below w.heap.size w w'
set_option maxRecDepth 100000 in
set_option maxHeartbeats 4000000 in
theorem mended (s : ByteArray) (w : World) (hs : s.size ≤ 2147483647) :
    Calls Tryd.prog 17 #[.string s] w (StrBool (mendL s.data.toList) (cleanL s.data.toList) w) := by
  obtain ⟨m, hm⟩ : ∃ m, m = s.data.toList := ⟨_, rfl⟩
  have hml : m.length = s.size := by rw [hm, size_list]
  have hwd := fun (k : Nat) (h : k < s.size) W => width s k W (by omega) h
  rw [← hm] at hwd ⊢
  obtain ⟨Q, hQ⟩ : ∃ Q, Q = mendL m := ⟨_, rfl⟩
  obtain ⟨clean, hcl⟩ : ∃ c, c = cleanL m := ⟨_, rfl⟩
  have hlenQ := runF_length mendC 3 (fun l hl => mendC_length l hl) m.length m (Nat.le_refl _)
  have hbq : Hid (∀ (k i : Nat) (out : List UInt8), QInv mendC m k i out → out.length + (k - i) ≤ 3 * s.size) := fun k i out q => by
    have h1 := q.bound
    rw [hml] at hlenQ
    omega
  rw [← hQ, ← hcl]
  have HWD := Lib.hid hwd
  have HM := Lib.hid hm
  have HML := Lib.hid hml
  have HQ := Lib.hid hQ
  have HCL := Lib.hid hcl
  have hs0 : Hid (QInv mendC m 0 0 []) := QInv.start mendC m
  have hs1 : Hid (CInv m 0 false) := CInv.start m
  clear hwd hm hml hQ hcl hlenQ
  go_enter Tryd.func17, Tryd.ntmps17
  go_wp2
  go_loopw [4, 5, 6] (fun b cl i wr => ∃ (k : Nat) (bad : Bool) (out : List UInt8), k ≤ s.size ∧ i = .int .i64 k ∧ cl = .bool (!bad) ∧ Buf wr w.heap.size none b out ∧ Fr w.heap.size none w wr ∧ Hid (QInv mendC m k k out) ∧ Hid (CInv m k bad)) (fun _ _ i _ => s.size - (intOf i).toNat)
  case atStart => exact ⟨0, false, [], Nat.zero_le _, rfl, rfl, Buf.empty w, Fr.of_below ((Below.refl _ _).alloc (Nat.le_refl _) _) (by intro g o h; cases h), hs0, hs1⟩
  case round =>
    clear hs0 hs1
    obtain ⟨k, bad, out, hk, rfl, rfl, hb, hf, hI, hC⟩ := hrel
    by_cases hkn : k < s.size
    · have hkm : Hid (k < m.length) := by have := HML.out; show _ < _; omega
      have hpos := drop_pos hkm.out
      have hdr := decW_range _ hpos
      rw [List.length_drop, HML.out] at hdr
      have hlen : Hid (out.length ≤ 3 * s.size) := by have := hbq.out _ _ _ hI.out; show _ ≤ _; omega
      have hwr := HWD.out k hkn wr
      by_cases h0 : rlL (m.drop k) = 0
      · have e0 : widL (m.drop k) = 0 := (widL_zero _ hpos).2 h0
        rw [e0] at hwr
        have hp : mendC (m.drop k) = BR := by unfold mendC; rw [if_pos h0]
        have hd1 : decW (m.drop k) = 1 := by unfold decW; rw [if_pos h0]
        have HI : Hid (QInv mendC m (k + 1) (k + 1) (out ++ BR)) := by
          have := hI.out.esc hkm.out 1 BR hd1 hp
          rw [Nat.sub_self, List.take_zero, List.append_nil] at this
          exact this
        have HC : Hid (CInv m (k + 1) true) := hC.out.bad hkm.out h0
        have HWR := Lib.hid hwr
        clear hwr e0 hp hd1 h0 hpos hdr
        go_wp2_with fail
        refine HWR.out.mono ?_
        rintro e w1 ⟨rfl, hb1⟩
        have hbw : Buf w1 w.heap.size none u4 out := hb.belowA hb1
        have hfw : Fr w.heap.size none w w1 := hf.trans (Fr.of_belowA hb1 hf.size (by intro g o h; cases h))
        clear hb1 HWR
        go_wp2_with (at_builtin; refine wpList_append_buf rfl (.tmp 18) (.const (.string ⟨#[239, 191, 189]⟩)) 9 rfl w.heap.size none u4 out rfl hbw _ BR rfl (Src.text ⟨#[239, 191, 189]⟩) ?c1 hfw.size (by intro g o h; cases h) ?_)
        case c1 => have h2 := hlen.out; simp [BR]; omega
        intro v2 w2 hb2 hg2 hf2 _
        have hfb := hfw.trans hf2
        clear hg2 hf2 hfw hbw
        go_wp2
        go_roundw
        case rel => exact ⟨k + 1, true, out ++ BR, by omega, by go_num, rfl, hb2, hfb, HI, HC⟩
        case measure => simp [intOf]; omega
      · have e0 := widL_dec _ hpos h0
        have hp : mendC (m.drop k) = (m.drop k).take (decW (m.drop k)) := by unfold mendC; rw [if_neg h0]
        obtain ⟨n, hn⟩ : ∃ n, n = decW (m.drop k) := ⟨_, rfl⟩
        rw [e0, ← hn] at hwr
        rw [← hn] at hdr hp
        have HI : Hid (QInv mendC m (k + n) (k + n) (out ++ (m.drop k).take n)) := by
          have := hI.out.esc hkm.out n _ hn.symm hp
          rw [Nat.sub_self, List.take_zero, List.append_nil] at this
          exact this
        have HC : Hid (CInv m (k + n) bad) := hC.out.good hkm.out n hn.symm h0
        have hsub : ∀ W, Src W 9 (.string (s.extract k (k + n))) ((m.drop k).take n) := fun W => by
          have := src_sub (w := W) s k (k + n)
          rw [← HM.out, show k + n - k = n by omega] at this
          exact this
        have HS := Lib.hid hsub
        have HWR := Lib.hid hwr
        obtain ⟨n1, n2, n3⟩ := hdr
        have hx : ((n : Int) == 0) = false := by simp; omega
        have htl : Hid (((m.drop k).take n).length = n) := by show _ = _; rw [List.length_take, List.length_drop, HML.out]; omega
        clear hwr e0 hp h0 hpos hn hsub
        go_wp2_with fail
        refine HWR.out.mono ?_
        rintro e w1 ⟨rfl, hb1⟩
        have hbw : Buf w1 w.heap.size none u4 out := hb.belowA hb1
        have hfw : Fr w.heap.size none w w1 := hf.trans (Fr.of_belowA hb1 hf.size (by intro g o h; cases h))
        clear hb1 HWR
        go_wp2_with (at_builtin; refine wpList_append_buf rfl (.tmp 22) (.tmp 28) 9 rfl w.heap.size none u4 out rfl hbw _ _ rfl (HS.out _) ?c1 hfw.size (by intro g o h; cases h) ?_)
        case c1 => have h2 := hlen.out; rw [htl.out]; omega
        intro v2 w2 hb2 hg2 hf2 _
        have hfb := hfw.trans hf2
        clear hg2 hf2 hfw hbw
        go_wp2
        go_roundw
        case rel => exact ⟨k + n, bad, _, by omega, by go_num, rfl, hb2, hfb, HI, HC⟩
        case measure => simp [intOf]; omega
    · have hkn' : k = s.size := by omega
      have hfin := hI.out.fin (by rw [HML.out]; exact hkn')
      rw [Nat.sub_self, List.take_zero, List.append_nil] at hfin
      have hout : out = Q := by rw [HQ.out]; exact hfin.symm
      have hcf : Hid ((!bad) = clean) := by show _ = _; rw [HCL.out]; exact (hC.out.fin (by rw [HML.out]; exact hkn')).symm
      subst hout
      have htx := hb.text
      have HF := Lib.hid hf
      clear hfin hI hC hb hf hkn
      subst hkn'
      go_wp2
      go_ret2
      exact ⟨congrArg (fun b => Ending.returned (.tuple #[.string ⟨out.toArray⟩, .bool b])) hcf.out, HF.out.below⟩
end Go.Proofs.YtldcoaigecnpfaaDoor
namespace Go.Proofs.YtldcoaigecnpfaaDoor
open Go.RowKit
theorem marked0 (t : ByteArray) (w : World) : Calls Tryd.prog 45 #[.string t, .agg #[.bool false, .bool false]] w (TextPost [] w) := by
  go_enter Tryd.func45, Tryd.ntmps45
  go_wp2
  go_ret
  exact ⟨rfl, (Below.refl _ _).alloc (Nat.le_refl _) _⟩
/-- A character without marks. -/
def qp0 (l : List UInt8) : List UInt8 :=
  if natL l 0 = 34 ∨ natL l 0 = 92 then 92 :: l else if natL l 0 = 8 then [92, 98] else if natL l 0 = 12 then [92, 102] else if natL l 0 = 10 then [92, 110] else if natL l 0 = 13 then [92, 114] else if natL l 0 = 9 then [92, 116] else if natL l 0 < 32 then u4 (natL l 0) else l
theorem cons_text (t : ByteArray) : (⟨#[92]⟩ : ByteArray) ++ t = ⟨(92 :: t.data.toList).toArray⟩ := by
  apply ByteArray.ext
  apply Array.toList_inj.1
  simp
theorem same_text (t : ByteArray) : t = ⟨(t.data.toList).toArray⟩ := by
  apply ByteArray.ext
  simp
end Go.Proofs.YtldcoaigecnpfaaDoor
namespace Go.Proofs.YtldcoaigecnpfaaDoor
open Go.RowKit
/-- A mended text has characters alone. -/
theorem clean_mend (n : Nat) : ∀ l : List UInt8, l.length ≤ n → cleanL (mendL l) = true := by
  induction n with
  | zero =>
    intro l h
    obtain rfl : l = [] := List.eq_nil_of_length_eq_zero (by omega)
    rfl
  | succ n ih =>
    intro l h
    by_cases hl : 0 < l.length
    · have hw := decW_range l hl
      have ih' := ih (l.drop (decW l)) (by rw [List.length_drop]; omega)
      have e : mendL l = mendC l ++ mendL (l.drop (decW l)) := runF_step _ _ hl
      rw [e]
      by_cases h0 : rlL l = 0
      · have em : mendC l = BR := by unfold mendC; rw [if_pos h0]
        have ed : ∀ X : List UInt8, (BR ++ X).drop 3 = X := fun _ => rfl
        have ec : cleanL (BR ++ mendL (l.drop (decW l))) = (goodC (BR ++ mendL (l.drop (decW l))) && cleanL ((BR ++ mendL (l.drop (decW l))).drop (decW (BR ++ mendL (l.drop (decW l)))))) := allF_step _ _ (by rw [List.length_append]; show 0 < 3 + _; omega)
        have eg : goodC (BR ++ mendL (l.drop (decW l))) = true := by unfold goodC; rw [rlL_BR]; decide
        rw [em, ec, eg, decW_BR, ed, ih']; rfl
      · have em : mendC l = l.take (decW l) := by unfold mendC; rw [if_neg h0]
        have hl2 : (l.take (decW l)).length = decW l := by rw [List.length_take]; omega
        have ec : cleanL (l.take (decW l) ++ mendL (l.drop (decW l))) = (goodC (l.take (decW l) ++ mendL (l.drop (decW l))) && cleanL ((l.take (decW l) ++ mendL (l.drop (decW l))).drop (decW (l.take (decW l) ++ mendL (l.drop (decW l)))))) := allF_step _ _ (by rw [List.length_append, hl2]; omega)
        have eg : goodC (l.take (decW l) ++ mendL (l.drop (decW l))) = true := by unfold goodC; rw [rlL_local l _ hl h0]; simpa using h0
        have ed : (l.take (decW l) ++ mendL (l.drop (decW l))).drop (decW l) = mendL (l.drop (decW l)) := by
          rw [List.drop_append, hl2, Nat.sub_self, List.drop_zero, List.drop_of_length_le (by omega), List.nil_append]
        rw [em, ec, eg, decW_local l _ hl h0, ed, ih']; rfl
    · obtain rfl : l = [] := List.eq_nil_of_length_eq_zero (by omega)
      rfl
set_option maxRecDepth 100000 in
/-- A character of a clean text by the reference is one by the package. -/
theorem qp0_qpiece (l : List UInt8) (hl : 0 < l.length) (h0 : ¬ rlL l = 0) : qp0 (l.take (decW l)) = qpiece false false l := by
  have hw := decW_range l hl
  have hn : natL (l.take (decW l)) 0 = natL l 0 := by
    have := take_app l [] (decW l) 0 (by omega) hw.2.2
    rwa [List.append_nil] at this
  unfold qp0 qpiece
  rw [hn]
  by_cases hlo : natL l 0 < 128
  · rw [if_pos hlo, (decW_ascii l hlo).2]
    have e1 : l.take 1 = [UInt8.ofNat (natL l 0)] := by
      obtain ⟨c, r, rfl⟩ := List.exists_cons_of_length_pos hl
      show [c] = [UInt8.ofNat c.toNat]
      rw [UInt8.ofNat_toNat]
    by_cases q1 : natL l 0 = 34
    · have hm : (mustA (natL l 0) || (false && htmlC (natL l 0))) = true := by rw [q1]; rfl
      rw [if_pos (.inl q1), if_pos hm, e1, q1]
      try rfl
    by_cases q2 : natL l 0 = 92
    · have hm : (mustA (natL l 0) || (false && htmlC (natL l 0))) = true := by rw [q2]; rfl
      rw [if_pos (.inr q2), if_pos hm, e1, q2]
      try rfl
    rw [if_neg (by omega)]
    by_cases q3 : natL l 0 < 32
    · have hm : (mustA (natL l 0) || (false && htmlC (natL l 0))) = true := by unfold mustA; simp [q3]
      rw [if_pos hm]
      unfold escA
      rw [if_neg q1, if_neg q2, if_pos q3]
    · have hm : (mustA (natL l 0) || (false && htmlC (natL l 0))) = false := by unfold mustA; simp; omega
      rw [if_neg (by omega), if_neg (by omega), if_neg (by omega), if_neg (by omega), if_neg (by omega), if_neg q3, if_neg (by rw [hm]; simp)]
  · rw [if_neg hlo, if_neg h0, if_neg (by omega), if_neg (by omega), if_neg (by omega), if_neg (by omega), if_neg (by omega), if_neg (by omega), if_neg (by omega), if_neg (by simp)]
theorem qpiece_take (l r : List UInt8) (hl : 0 < l.length) (h0 : ¬ rlL l = 0) : qpiece false false (l.take (decW l) ++ r) = qpiece false false l := by
  have hw := decW_range l hl
  rw [← qp0_qpiece l hl h0, ← qp0_qpiece (l.take (decW l) ++ r) (by rw [List.length_append, List.length_take]; omega) (by rw [rlL_local l r hl h0]; exact h0), decW_local l r hl h0]
  have e : (l.take (decW l) ++ r).take (decW l) = l.take (decW l) := by rw [List.take_append_of_le_length (by rw [List.length_take]; omega), List.take_take, Nat.min_self]
  rw [e]
theorem mendL_length (l : List UInt8) : (mendL l).length ≤ 3 * l.length := runF_length mendC 3 (fun l hl => mendC_length l hl) l.length l (Nat.le_refl _)
end Go.Proofs.YtldcoaigecnpfaaDoor
