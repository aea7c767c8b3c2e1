/- The reference's Kept with any marks, walked. -/
import Derived.Test.YtldcoaigecnpfaaDoorGQuoteG
import Derived.Outline
namespace Go.Proofs.YtldcoaigecnpfaaDoor
open Go.RowKit
/-- A character by its mark, or as it stands. -/
def keptG (mh mj : Bool) (l : List UInt8) : List UInt8 := if (mh && htmlC (natL l 0)) = true then u4 (natL l 0) else if (mj && decide (¬ jsN l = 0)) = true then u4 (jsN l) else l.take (decW l)
theorem keptG_length (mh mj : Bool) (l : List UInt8) (hl : 0 < l.length) : (keptG mh mj l).length ≤ 6 * decW l := by
  have := decW_range l hl
  unfold keptG
  split
  · rw [u4_length]; omega
  · split
    · rw [u4_length]; omega
    · rw [List.length_take]; omega
theorem kept_markG (mh mj : Bool) (l : List UInt8) (hl : 0 < l.length) : keptG mh mj l = if markG mh mj (l.take (decW l)) = [] then l.take (decW l) else markG mh mj (l.take (decW l)) := by
  rw [mark_take mh mj l hl]
  unfold keptG markC
  by_cases A : (mh && htmlC (natL l 0)) = true
  · rw [if_pos A, if_pos A, if_neg (u4_ne _)]
  · rw [if_neg A, if_neg A]
    by_cases B : (mj && decide (¬ jsN l = 0)) = true
    · rw [if_pos B, if_pos B, if_neg (u4_ne _)]
    · rw [if_neg B, if_neg B, if_pos rfl]
theorem keptG_none (l : List UInt8) : keptG false false l = l.take (decW l) := by unfold keptG; simp
set_option maxRecDepth 100000 in
set_option maxHeartbeats 4000000 in
theorem keptGS (mh mj : Bool) (s : ByteArray) (w : World) (hs : s.size ≤ 1000000) :
    Calls Tryd.prog 59 #[.string s, .agg #[.bool mh, .bool mj]] w (TextPost (runF (keptG mh mj) 0 s.data.toList) w) := by
  obtain ⟨m, hm⟩ : ∃ m, m = s.data.toList := ⟨_, rfl⟩
  obtain ⟨n, hn⟩ : ∃ n, n = s.size := ⟨_, rfl⟩
  have hnm : m.length = n := by rw [hm, hn, size_list]
  have hlenQ := runF_length (keptG mh mj) 6 (fun l hl => keptG_length mh mj l hl) m.length m (Nat.le_refl _)
  rw [← hm]
  obtain ⟨Q, hQ⟩ : ∃ Q, Q = runF (keptG mh mj) 0 m := ⟨_, rfl⟩
  rw [← hQ] at hlenQ ⊢
  have hwd : Hid (∀ k, k < n → ∀ W, Calls Tryd.prog 26 #[.string s, .int .i64 k] W (WidthPost (widL (m.drop k)) W)) := fun k h W => by rw [hm]; exact width s k W (by omega) (by omega)
  rw [← hn] at hs
  have HN := Lib.hid hnm
  have HM := Lib.hid hm
  have HQ := Lib.hid hQ
  have HLQ := Lib.hid hlenQ
  have HBQ : Hid (∀ (k i : Nat) (out : List UInt8), QInv (keptG mh mj) m k i out → out.length + (k - i) ≤ 6 * n) := fun _ _ _ q => by have h1 := q.bound; rw [← HQ.out] at h1; have := HLQ.out; rw [HN.out] at this; omega
  have hs0 : Hid (QInv (keptG mh mj) m 0 0 []) := QInv.start (keptG mh mj) m
  have hsn : (s.size : Int) = n := by rw [hn]
  have hsn' : s.size = n := hn.symm
  clear hn hQ hlenQ hnm hm
  have hst : Hid (∀ W : World, Buf (W.alloc (Obj.cells #[] 5)) W.heap.size none (.slice (some ⟨W.heap.size, 0, none⟩) 0 0) []) := fun W => Buf.empty W
  go_enter Tryd.func59, Tryd.ntmps59
  go_wp2
  obtain ⟨w1, hw1⟩ : ∃ w1, w1 = w.alloc (Obj.cells #[.bool mh, .bool mj] 31) := ⟨_, rfl⟩
  have hb1 : Below w.heap.size w w1 := by rw [hw1]; exact (Below.refl _ _).alloc (Nat.le_refl _) _
  have hz1 : w1.heap.size = w.heap.size + 1 := by rw [hw1]; simp
  have hmk0 : w1.cell? ⟨w.heap.size, 0, none⟩ = some (.bool mh) := by rw [hw1]; simp
  have hmk1 : w1.cell? ⟨w.heap.size, 1, none⟩ = some (.bool mj) := by rw [hw1]; simp
  rw [← hw1]
  have HB1 := Lib.hid hb1
  have hst1 := hst.out w1
  rw [hz1] at hst1
  have HST := Lib.hid hst1
  have HW1 := Lib.hid hw1
  have hzlt : w.heap.size < w1.heap.size := by omega
  have HZ := Lib.hid hz1
  clear hb1 hst hst1 hw1 hz1
  go_loopw [5, 6] (fun b i wr => ∃ (k : Nat) (out : List UInt8), k ≤ n ∧ i = .int .i64 k ∧ Buf wr w1.heap.size none b out ∧ Fr w1.heap.size none w1 wr ∧ Hid (QInv (keptG mh mj) m k k out)) (fun _ i _ => n - (intOf i).toNat)
  case atStart => exact ⟨0, [], Nat.zero_le _, rfl, by rw [HZ.out]; exact HST.out, Fr.of_below ((Below.refl _ _).alloc (Nat.le_refl _) _) (by intro g o h; cases h), hs0⟩
  case round =>
    clear hs0 HST
    obtain ⟨k, out, hk, rfl, hb, hf, hI⟩ := hrel
    have m0 : wr.cell? ⟨w.heap.size, 0, none⟩ = some (.bool mh) := (World.cell?_of_block (a := ⟨w.heap.size, 0, none⟩) (hf.block w.heap.size (by omega) (by intro o h; cases h))).trans hmk0
    have m1 : wr.cell? ⟨w.heap.size, 1, none⟩ = some (.bool mj) := (World.cell?_of_block (a := ⟨w.heap.size, 1, none⟩) (hf.block w.heap.size (by omega) (by intro o h; cases h))).trans hmk1
    by_cases hkn : k < n
    · have hkm : Hid (k < m.length) := by have := HN.out; show _ < _; omega
      have hpos := drop_pos hkm.out
      have hdr := decW_range _ hpos
      rw [List.length_drop, HN.out] at hdr
      have hlen : Hid (out.length ≤ 6 * n) := by have := HBQ.out _ _ _ hI.out; show _ ≤ _; omega
      have hwr := hwd.out k hkn wr
      obtain ⟨q, hq⟩ : ∃ q, q = decW (m.drop k) := ⟨_, rfl⟩
      obtain ⟨u, hu⟩ : ∃ u, u = widL (m.drop k) := ⟨_, rfl⟩
      have hmax : max (u : Int) 1 = (q : Int) := by
        rw [hu, hq]
        by_cases h0 : rlL (m.drop k) = 0
        · rw [(widL_zero _ hpos).2 h0]; unfold decW; rw [if_pos h0]; rfl
        · rw [widL_dec _ hpos h0]; omega
      have hu4 : u ≤ 4 := by omega
      have hp := kept_markG mh mj _ hpos
      rw [← hu] at hwr
      rw [← hq] at hdr hp
      obtain ⟨n1, n2, n3⟩ := hdr
      have hpl : (m.drop k).take q = (s.extract k (k + q)).data.toList := by rw [Lib.extract_data, HM.out, show k + q - k = q by omega]
      have hmk := fun W => markedG mh mj (s.extract k (k + q)) W
      rw [← hpl] at hmk
      obtain ⟨T, hT⟩ : ∃ T : ByteArray, T = ⟨(markG mh mj ((m.drop k).take q)).toArray⟩ := ⟨_, rfl⟩
      have hTl : T.data.toList = markG mh mj ((m.drop k).take q) := by rw [hT]
      unfold TextPost at hmk
      rw [← hT] at hmk
      have HMK := Lib.hid hmk
      have HWR := Lib.hid hwr
      have hsw := hf.size
      have huq : u = 0 ∧ q = 1 ∨ u = q := by
        rw [hu, hq]
        by_cases h0 : rlL (m.drop k) = 0
        · exact .inl ⟨(widL_zero _ hpos).2 h0, by unfold decW; rw [if_pos h0]⟩
        · exact .inr (widL_dec _ hpos h0)
      clear hmax
      rcases huq with ⟨hu0, hq1⟩ | huq
      · have HWR : Hid (Calls Tryd.prog 26 #[.string s, .int .i64 k] wr (WidthPost 0 wr)) := by rw [← hu0]; exact HWR.out
        clear hu hu4 hwr hu0
        subst hq1
        by_cases he : T.data.toList = []
        · have e1 : T.toList.isEmpty = true := by rw [Lib.toList_data, he]; rfl
          rw [← hTl, if_pos he] at hp
          have HI : Hid (QInv (keptG mh mj) m (k + 1) (k + 1) (out ++ (m.drop k).take 1)) := by
            have := hI.out.esc hkm.out 1 _ hq.symm hp
            rw [Nat.sub_self, List.take_zero, List.append_nil] at this
            exact this
          have HPL := Lib.hid hpl
          have hl3 : Hid (out.length + ((m.drop k).take 1).length ≤ 140737488355328) := by have h1 := HBQ.out _ _ _ HI.out; rw [List.length_append] at h1; show _ ≤ _; omega
          clear hp hpos hq hpl hmk hT hTl he hI hmk0 hmk1
          go_wp2_with fail
          refine HWR.out.mono ?_
          rintro e w2 ⟨rfl, hb2⟩
          have hbw : Hid (Buf w2 w1.heap.size none u5 out) := hb.belowA hb2
          have hfw : Hid (Fr w1.heap.size none w1 w2) := hf.trans (Fr.of_belowA hb2 hf.size (by intro g o h; cases h))
          have p0 : w2.cell? ⟨w.heap.size, 0, none⟩ = some (.bool mh) := (hb2.cell (p := ⟨w.heap.size, 0, none⟩) (by show w.heap.size < _; omega)).trans m0
          have p1 : w2.cell? ⟨w.heap.size, 1, none⟩ = some (.bool mj) := (hb2.cell (p := ⟨w.heap.size, 1, none⟩) (by show w.heap.size < _; omega)).trans m1
          clear hb2 HWR hb hf m0 m1
          go_wp2_with fail
          refine (HMK.out _).mono ?_
          rintro e w3 ⟨rfl, hb3⟩
          have hbx := hbw.out.belowA hb3
          have hfx : Fr w1.heap.size none w1 w3 := hfw.out.trans (Fr.of_belowA hb3 hfw.out.size (by intro g o h; cases h))
          clear hb3 HMK hbw hfw p0 p1
          go_wp2_with (at_builtin; refine wpList_append_buf rfl (.tmp 31) (.tmp 32) 9 rfl w1.heap.size none u5 out rfl hbx _ _ rfl (Src.text (s.extract k (k + 1))) ?c1 hfx.size (by intro g o h; cases h) ?_)
          case c1 => rw [← HPL.out]; exact hl3.out
          intro v4 w4 hb4 hg4 hf4 _
          rw [← HM.out] at hb4
          have hfb := hfx.trans hf4
          clear hg4 hf4 hbx hfx
          go_wp2
          go_roundw
          case rel => exact ⟨k + 1, _, by omega, by go_num, hb4, hfb, HI⟩
          case measure => simp [intOf]; omega
        · have e1 : T.toList.isEmpty = false := by rw [Lib.toList_data]; simpa using he
          rw [if_neg (by rw [← hTl]; exact he)] at hp
          have HI : Hid (QInv (keptG mh mj) m (k + 1) (k + 1) (out ++ T.data.toList)) := by
            have := hI.out.esc hkm.out 1 _ hq.symm (hp.trans hTl.symm)
            rw [Nat.sub_self, List.take_zero, List.append_nil] at this
            exact this
          have hl3 : Hid (out.length + T.data.toList.length ≤ 140737488355328) := by have h1 := HBQ.out _ _ _ HI.out; rw [List.length_append] at h1; show _ ≤ _; omega
          clear hp hpos hq hpl hmk hT hTl he hI hmk0 hmk1
          go_wp2_with fail
          refine HWR.out.mono ?_
          rintro e w2 ⟨rfl, hb2⟩
          have hbw : Hid (Buf w2 w1.heap.size none u5 out) := hb.belowA hb2
          have hfw : Hid (Fr w1.heap.size none w1 w2) := hf.trans (Fr.of_belowA hb2 hf.size (by intro g o h; cases h))
          have p0 : w2.cell? ⟨w.heap.size, 0, none⟩ = some (.bool mh) := (hb2.cell (p := ⟨w.heap.size, 0, none⟩) (by show w.heap.size < _; omega)).trans m0
          have p1 : w2.cell? ⟨w.heap.size, 1, none⟩ = some (.bool mj) := (hb2.cell (p := ⟨w.heap.size, 1, none⟩) (by show w.heap.size < _; omega)).trans m1
          clear hb2 HWR hb hf m0 m1
          go_wp2_with fail
          refine (HMK.out _).mono ?_
          rintro e w3 ⟨rfl, hb3⟩
          have hbx := hbw.out.belowA hb3
          have hfx : Fr w1.heap.size none w1 w3 := hfw.out.trans (Fr.of_belowA hb3 hfw.out.size (by intro g o h; cases h))
          clear hb3 HMK hbw hfw p0 p1
          go_wp2_with (at_builtin; refine wpList_append_buf rfl (.tmp 31) (.tmp 32) 9 rfl w1.heap.size none u5 out rfl hbx _ _ rfl (Src.text T) ?c1 hfx.size (by intro g o h; cases h) ?_)
          case c1 => exact hl3.out
          intro v4 w4 hb4 hg4 hf4 _
          have hfb := hfx.trans hf4
          clear hg4 hf4 hbx hfx
          go_wp2
          go_roundw
          case rel => exact ⟨k + 1, _, by omega, by go_num, hb4, hfb, HI⟩
          case measure => simp [intOf]; omega
      · have hq0 : ¬ (q : Int) ≤ 1 ∨ q = 1 := by omega
        have i3 : ((k : Int) + (q : Int)).toNat = k + q := by omega
        have hmx : max (q : Int) 1 = (q : Int) := by omega
        have HWR : Hid (Calls Tryd.prog 26 #[.string s, .int .i64 k] wr (WidthPost q wr)) := by rw [← huq]; exact HWR.out
        clear hu hu4 hwr huq hq0
        by_cases he : T.data.toList = []
        · have e1 : T.toList.isEmpty = true := by rw [Lib.toList_data, he]; rfl
          rw [← hTl, if_pos he] at hp
          have HI : Hid (QInv (keptG mh mj) m (k + q) (k + q) (out ++ (m.drop k).take q)) := by
            have := hI.out.esc hkm.out q _ hq.symm hp
            rw [Nat.sub_self, List.take_zero, List.append_nil] at this
            exact this
          have HPL := Lib.hid hpl
          have hl3 : Hid (out.length + ((m.drop k).take q).length ≤ 140737488355328) := by have h1 := HBQ.out _ _ _ HI.out; rw [List.length_append] at h1; show _ ≤ _; omega
          clear hp hpos hq hpl hmk hT hTl he hI hmk0 hmk1
          go_wp2_with fail
          refine HWR.out.mono ?_
          rintro e w2 ⟨rfl, hb2⟩
          have hbw : Hid (Buf w2 w1.heap.size none u5 out) := hb.belowA hb2
          have hfw : Hid (Fr w1.heap.size none w1 w2) := hf.trans (Fr.of_belowA hb2 hf.size (by intro g o h; cases h))
          have p0 : w2.cell? ⟨w.heap.size, 0, none⟩ = some (.bool mh) := (hb2.cell (p := ⟨w.heap.size, 0, none⟩) (by show w.heap.size < _; omega)).trans m0
          have p1 : w2.cell? ⟨w.heap.size, 1, none⟩ = some (.bool mj) := (hb2.cell (p := ⟨w.heap.size, 1, none⟩) (by show w.heap.size < _; omega)).trans m1
          clear hb2 HWR hb hf m0 m1
          go_wp2_with fail
          refine (HMK.out _).mono ?_
          rintro e w3 ⟨rfl, hb3⟩
          have hbx := hbw.out.belowA hb3
          have hfx : Fr w1.heap.size none w1 w3 := hfw.out.trans (Fr.of_belowA hb3 hfw.out.size (by intro g o h; cases h))
          clear hb3 HMK hbw hfw p0 p1
          go_wp2_with (at_builtin; refine wpList_append_buf rfl (.tmp 31) (.tmp 32) 9 rfl w1.heap.size none u5 out rfl hbx _ _ rfl (Src.text (s.extract k (k + q))) ?c1 hfx.size (by intro g o h; cases h) ?_)
          case c1 => rw [← HPL.out]; exact hl3.out
          intro v4 w4 hb4 hg4 hf4 _
          rw [← HM.out] at hb4
          have hfb := hfx.trans hf4
          clear hg4 hf4 hbx hfx
          go_wp2
          go_roundw
          case rel => exact ⟨k + q, _, by omega, by go_num, hb4, hfb, HI⟩
          case measure => simp [intOf]; omega
        · have e1 : T.toList.isEmpty = false := by rw [Lib.toList_data]; simpa using he
          rw [if_neg (by rw [← hTl]; exact he)] at hp
          have HI : Hid (QInv (keptG mh mj) m (k + q) (k + q) (out ++ T.data.toList)) := by
            have := hI.out.esc hkm.out q _ hq.symm (hp.trans hTl.symm)
            rw [Nat.sub_self, List.take_zero, List.append_nil] at this
            exact this
          have hl3 : Hid (out.length + T.data.toList.length ≤ 140737488355328) := by have h1 := HBQ.out _ _ _ HI.out; rw [List.length_append] at h1; show _ ≤ _; omega
          clear hp hpos hq hpl hmk hT hTl he hI hmk0 hmk1
          go_wp2_with fail
          refine HWR.out.mono ?_
          rintro e w2 ⟨rfl, hb2⟩
          have hbw : Hid (Buf w2 w1.heap.size none u5 out) := hb.belowA hb2
          have hfw : Hid (Fr w1.heap.size none w1 w2) := hf.trans (Fr.of_belowA hb2 hf.size (by intro g o h; cases h))
          have p0 : w2.cell? ⟨w.heap.size, 0, none⟩ = some (.bool mh) := (hb2.cell (p := ⟨w.heap.size, 0, none⟩) (by show w.heap.size < _; omega)).trans m0
          have p1 : w2.cell? ⟨w.heap.size, 1, none⟩ = some (.bool mj) := (hb2.cell (p := ⟨w.heap.size, 1, none⟩) (by show w.heap.size < _; omega)).trans m1
          clear hb2 HWR hb hf m0 m1
          go_wp2_with fail
          refine (HMK.out _).mono ?_
          rintro e w3 ⟨rfl, hb3⟩
          have hbx := hbw.out.belowA hb3
          have hfx : Fr w1.heap.size none w1 w3 := hfw.out.trans (Fr.of_belowA hb3 hfw.out.size (by intro g o h; cases h))
          clear hb3 HMK hbw hfw p0 p1
          go_wp2_with (at_builtin; refine wpList_append_buf rfl (.tmp 31) (.tmp 32) 9 rfl w1.heap.size none u5 out rfl hbx _ _ rfl (Src.text T) ?c1 hfx.size (by intro g o h; cases h) ?_)
          case c1 => exact hl3.out
          intro v4 w4 hb4 hg4 hf4 _
          have hfb := hfx.trans hf4
          clear hg4 hf4 hbx hfx
          go_wp2
          go_roundw
          case rel => exact ⟨k + q, _, by omega, by go_num, hb4, hfb, HI⟩
          case measure => simp [intOf]; omega
    · have hkn' : k = n := by omega
      have hfin := hI.out.fin (by rw [HN.out]; exact hkn')
      rw [Nat.sub_self, List.take_zero, List.append_nil, ← HQ.out] at hfin
      subst hfin
      have htx := hb.text
      have HF := Lib.hid hf
      clear hI hkn hb hf m0 m1 hmk0 hmk1
      subst hkn'
      go_wp2
      go_ret
      exact ⟨rfl, HB1.out.trans (HF.out.below.mono (by omega))⟩
end Go.Proofs.YtldcoaigecnpfaaDoor
