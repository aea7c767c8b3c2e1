/- The reference's Kept with both marks, walked. -/
import Derived.Test.YtklncgmfbflooaaDoorMarked
import Derived.Test.YtklncgmfbflooaaDoorWidth
import Derived.Test.YtklncgmfbflooaaDoorKeptP
import Derived.Outline
namespace Go.Proofs.YtklncgmfbflooaaDoor
open Go.RowKit
theorem natL_take (l : List UInt8) (k j : Nat) (h : j < k) : natL (l.take k) j = natL l j := by
  unfold natL
  rw [List.getD_eq_getElem?_getD, List.getD_eq_getElem?_getD, List.getElem?_take, if_pos h]
theorem list3 (l : List UInt8) (a b c : UInt8) (h0 : natL l 0 = a.toNat) (h1 : natL l 1 = b.toNat) (h2 : natL l 2 = c.toNat) (hl : l.length = 3) : l = [a, b, c] := by
  match l, hl with
  | [x, y, z], _ =>
    have e0 : x.toNat = a.toNat := h0
    have e1 : y.toNat = b.toNat := h1
    have e2 : z.toNat = c.toNat := h2
    rw [UInt8.toNat_inj.1 e0, UInt8.toNat_inj.1 e1, UInt8.toNat_inj.1 e2]
theorem list1 (l : List UInt8) (a : UInt8) (h0 : natL l 0 = a.toNat) (hl : l.length = 1) : l = [a] := by
  match l, hl with
  | [x], _ =>
    have e0 : x.toNat = a.toNat := h0
    rw [UInt8.toNat_inj.1 e0]
theorem js_three (l : List UInt8) (h0 : natL l 0 = 226) (h1 : natL l 1 = 128) (h2 : natL l 2 = 168 ∨ natL l 2 = 169) : decW l = 3 := by
  have hlen : 3 ≤ l.length := by
    rcases Nat.lt_or_ge 2 l.length with h | h
    · omega
    · have : natL l 2 = 0 := by unfold natL; rw [List.getD_eq_getElem?_getD, List.getElem?_eq_none (by omega)]; rfl
      omega
  have e : rlL l = 3 := by
    have hx : rlL l = rl l.length (atL l 0) (atL l 1) (atL l 2) (atL l 3) := rfl
    rw [hx, natL_at, natL_at, natL_at, natL_at, h0, h1]
    unfold rl
    (repeat' split) <;> omega
  unfold decW; rw [e]; rfl
theorem kept_mark (l : List UInt8) (hl : 0 < l.length) : keptC l = if markL (l.take (decW l)) = [] then l.take (decW l) else markL (l.take (decW l)) := by
  have hw := decW_range l hl
  have hn0 := natL_take l (decW l) 0 (by omega)
  have hlen : (l.take (decW l)).length = decW l := by rw [List.length_take]; omega
  unfold keptC
  by_cases hh : htmlC (natL l 0) = true
  · rw [if_pos hh]
    have h3 : natL l 0 = 60 ∨ natL l 0 = 62 ∨ natL l 0 = 38 := by unfold htmlC at hh; simpa [or_assoc] using hh
    have hd : decW l = 1 := (decW_ascii l (by omega)).2
    rcases h3 with h | h | h
    · have e := list1 (l.take (decW l)) 60 (by rw [hn0, h]; rfl) (by rw [hlen, hd])
      rw [e, h]; rfl
    · have e := list1 (l.take (decW l)) 62 (by rw [hn0, h]; rfl) (by rw [hlen, hd])
      rw [e, h]; rfl
    · have e := list1 (l.take (decW l)) 38 (by rw [hn0, h]; rfl) (by rw [hlen, hd])
      rw [e, h]; rfl
  · rw [if_neg hh]
    by_cases hj : jsN l = 0
    · rw [if_neg (by rw [hj]; simp)]
      have hm : markL (l.take (decW l)) = [] := by
        have n1 : ∀ a : UInt8, htmlC a.toNat = true → ¬ l.take (decW l) = [a] := fun a ha e => by
          rw [e] at hn0
          have : natL [a] 0 = a.toNat := rfl
          rw [this] at hn0
          rw [← hn0] at hh
          exact hh ha
        have n3 : ∀ a : UInt8, a.toNat = 168 ∨ a.toNat = 169 → ¬ l.take (decW l) = [226, 128, a] := fun a ha e => by
          have hd : decW l = 3 := by rw [← hlen, e]; rfl
          have q1 := natL_take l (decW l) 1 (by omega)
          have q2 := natL_take l (decW l) 2 (by omega)
          rw [e] at hn0 q1 q2
          have p0 : natL l 0 = 226 := hn0.symm
          have p1 : natL l 1 = 128 := q1.symm
          have p2 : natL l 2 = a.toNat := q2.symm
          unfold jsN at hj
          rcases ha with ha | ha
          · rw [if_pos ⟨p0, p1, by omega⟩] at hj; omega
          · rw [if_neg (fun z => by have := z.2.2; omega), if_pos ⟨p0, p1, by omega⟩] at hj; omega
        unfold markL
        rw [if_neg (n1 60 rfl), if_neg (n1 62 rfl), if_neg (n1 38 rfl), if_neg (n3 168 (.inl rfl)), if_neg (n3 169 (.inr rfl))]
      rw [if_pos hm]
    · rw [if_pos hj]
      by_cases h8 : natL l 0 = 226 ∧ natL l 1 = 128 ∧ natL l 2 = 168
      · have hd := js_three l h8.1 h8.2.1 (.inl h8.2.2)
        have e := list3 (l.take (decW l)) 226 128 168 (by rw [hn0, h8.1]; rfl) (by rw [natL_take l _ 1 (by omega), h8.2.1]; rfl) (by rw [natL_take l _ 2 (by omega), h8.2.2]; rfl) (by rw [hlen, hd])
        have ej : jsN l = 8232 := by unfold jsN; rw [if_pos h8]
        rw [e, ej]; rfl
      · by_cases h9 : natL l 0 = 226 ∧ natL l 1 = 128 ∧ natL l 2 = 169
        · have hd := js_three l h9.1 h9.2.1 (.inr h9.2.2)
          have e := list3 (l.take (decW l)) 226 128 169 (by rw [hn0, h9.1]; rfl) (by rw [natL_take l _ 1 (by omega), h9.2.1]; rfl) (by rw [natL_take l _ 2 (by omega), h9.2.2]; rfl) (by rw [hlen, hd])
          have ej : jsN l = 8233 := by unfold jsN; rw [if_neg h8, if_pos h9]
          rw [e, ej]; rfl
        · exact absurd (by unfold jsN; rw [if_neg h8, if_neg h9]) hj
theorem markL_length (P : List UInt8) : (markL P).length ≤ 6 := by unfold markL; (repeat' split) <;> simp [u4_length]
set_option maxRecDepth 100000 in
set_option maxHeartbeats 4000000 in
theorem keptS (s : ByteArray) (w : World) (hs : s.size ≤ 1000000) :
    Calls Tryd.prog 12 #[.string s, .agg #[.bool true, .bool true]] w (TextPost (runF keptC 0 s.data.toList) w) := by
  obtain ⟨m, hm⟩ : ∃ m, m = s.data.toList := ⟨_, rfl⟩
  obtain ⟨n, hn⟩ : ∃ n, n = s.size := ⟨_, rfl⟩
  have hnm : m.length = n := by rw [hm, hn, size_list]
  have hlenQ := runF_length keptC 6 (fun l hl => keptC_length l hl) m.length m (Nat.le_refl _)
  rw [← hm]
  obtain ⟨Q, hQ⟩ : ∃ Q, Q = runF keptC 0 m := ⟨_, rfl⟩
  rw [← hQ] at hlenQ ⊢
  have hwd : Hid (∀ k, k < n → ∀ W, Calls Tryd.prog 27 #[.string s, .int .i64 k] W (WidthPost (widL (m.drop k)) W)) := fun k h W => by rw [hm]; exact width s k W (by omega) (by omega)
  rw [← hn] at hs
  have HN := Lib.hid hnm
  have HM := Lib.hid hm
  have HQ := Lib.hid hQ
  have HLQ := Lib.hid hlenQ
  have HBQ : Hid (∀ (k i : Nat) (out : List UInt8), QInv keptC m k i out → out.length + (k - i) ≤ 6 * n) := fun _ _ _ q => by have h1 := q.bound; rw [← HQ.out] at h1; have := HLQ.out; rw [HN.out] at this; omega
  have hs0 : Hid (QInv keptC m 0 0 []) := QInv.start keptC m
  have hsn : (s.size : Int) = n := by rw [hn]
  have hsn' : s.size = n := hn.symm
  clear hn hQ hlenQ hnm hm
  have hst : Hid (∀ W : World, Buf (W.alloc (Obj.cells #[] 5)) W.heap.size none (.slice (some ⟨W.heap.size, 0, none⟩) 0 0) []) := fun W => Buf.empty W
  go_enter Tryd.func12, Tryd.ntmps12
  go_wp2
  obtain ⟨w1, hw1⟩ : ∃ w1, w1 = w.alloc (Obj.cells #[.bool true, .bool true] 31) := ⟨_, rfl⟩
  have hb1 : Below w.heap.size w w1 := by rw [hw1]; exact (Below.refl _ _).alloc (Nat.le_refl _) _
  have hz1 : w1.heap.size = w.heap.size + 1 := by rw [hw1]; simp
  have hmk0 : w1.cell? ⟨w.heap.size, 0, none⟩ = some (.bool true) := by rw [hw1]; simp
  have hmk1 : w1.cell? ⟨w.heap.size, 1, none⟩ = some (.bool true) := by rw [hw1]; simp
  rw [← hw1]
  have HB1 := Lib.hid hb1
  have hst1 := hst.out w1
  rw [hz1] at hst1
  have HST := Lib.hid hst1
  have HW1 := Lib.hid hw1
  have hzlt : w.heap.size < w1.heap.size := by omega
  have HZ := Lib.hid hz1
  clear hb1 hst hst1 hw1 hz1
  go_loopw [5, 6] (fun b i wr => ∃ (k : Nat) (out : List UInt8), k ≤ n ∧ i = .int .i64 k ∧ Buf wr w1.heap.size none b out ∧ Fr w1.heap.size none w1 wr ∧ Hid (QInv keptC m k k out)) (fun _ i _ => n - (intOf i).toNat)
  case atStart => exact ⟨0, [], Nat.zero_le _, rfl, by rw [HZ.out]; exact HST.out, Fr.of_below ((Below.refl _ _).alloc (Nat.le_refl _) _) (by intro g o h; cases h), hs0⟩
  case round =>
    clear hs0 HST
    obtain ⟨k, out, hk, rfl, hb, hf, hI⟩ := hrel
    have m0 : wr.cell? ⟨w.heap.size, 0, none⟩ = some (.bool true) := (World.cell?_of_block (a := ⟨w.heap.size, 0, none⟩) (hf.block w.heap.size (by omega) (by intro o h; cases h))).trans hmk0
    have m1 : wr.cell? ⟨w.heap.size, 1, none⟩ = some (.bool true) := (World.cell?_of_block (a := ⟨w.heap.size, 1, none⟩) (hf.block w.heap.size (by omega) (by intro o h; cases h))).trans hmk1
    by_cases hkn : k < n
    · have hkm : Hid (k < m.length) := by have := HN.out; show _ < _; omega
      have hpos := drop_pos hkm.out
      have hdr := decW_range _ hpos
      rw [List.length_drop, HN.out] at hdr
      have hlen : Hid (out.length ≤ 6 * n) := by have := HBQ.out _ _ _ hI.out; show _ ≤ _; omega
      have hwr := hwd.out k hkn wr
      obtain ⟨q, hq⟩ : ∃ q, q = decW (m.drop k) := ⟨_, rfl⟩
      obtain ⟨u, hu⟩ : ∃ u, u = widL (m.drop k) := ⟨_, rfl⟩
      have hmax : max (u : Int) 1 = (q : Int) := by
        rw [hu, hq]
        by_cases h0 : rlL (m.drop k) = 0
        · rw [(widL_zero _ hpos).2 h0]; unfold decW; rw [if_pos h0]; rfl
        · rw [widL_dec _ hpos h0]; omega
      have hu4 : u ≤ 4 := by omega
      have hp := kept_mark _ hpos
      rw [← hu] at hwr
      rw [← hq] at hdr hp
      obtain ⟨n1, n2, n3⟩ := hdr
      have hpl : (m.drop k).take q = (s.extract k (k + q)).data.toList := by rw [Lib.extract_data, HM.out, show k + q - k = q by omega]
      have hmk := fun W => markedS (s.extract k (k + q)) W
      rw [← hpl] at hmk
      obtain ⟨T, hT⟩ : ∃ T : ByteArray, T = ⟨(markL ((m.drop k).take q)).toArray⟩ := ⟨_, rfl⟩
      have hTl : T.data.toList = markL ((m.drop k).take q) := by rw [hT]
      unfold TextPost at hmk
      rw [← hT] at hmk
      have HMK := Lib.hid hmk
      have HWR := Lib.hid hwr
      have hsw := hf.size
      have huq : u = 0 ∧ q = 1 ∨ u = q := by
        rw [hu, hq]
        by_cases h0 : rlL (m.drop k) = 0
        · exact .inl ⟨(widL_zero _ hpos).2 h0, by unfold decW; rw [if_pos h0]⟩
        · exact .inr (widL_dec _ hpos h0)
      clear hmax
      rcases huq with ⟨hu0, hq1⟩ | huq
      · have HWR : Hid (Calls Tryd.prog 27 #[.string s, .int .i64 k] wr (WidthPost 0 wr)) := by rw [← hu0]; exact HWR.out
        clear hu hu4 hwr hu0
        subst hq1
        by_cases he : T.data.toList = []
        · have e1 : T.toList.isEmpty = true := by rw [Lib.toList_data, he]; rfl
          rw [← hTl, if_pos he] at hp
          have HI : Hid (QInv keptC m (k + 1) (k + 1) (out ++ (m.drop k).take 1)) := by
            have := hI.out.esc hkm.out 1 _ hq.symm hp
            rw [Nat.sub_self, List.take_zero, List.append_nil] at this
            exact this
          have HPL := Lib.hid hpl
          have hl3 : Hid (out.length + ((m.drop k).take 1).length ≤ 140737488355328) := by have h1 := HBQ.out _ _ _ HI.out; rw [List.length_append] at h1; show _ ≤ _; omega
          clear hp hpos hq hpl hmk hT hTl he hI hmk0 hmk1
          go_wp2_with fail
          refine HWR.out.mono ?_
          rintro e w2 ⟨rfl, hb2⟩
          have hbw : Hid (Buf w2 w1.heap.size none u5 out) := hb.belowA hb2
          have hfw : Hid (Fr w1.heap.size none w1 w2) := hf.trans (Fr.of_belowA hb2 hf.size (by intro g o h; cases h))
          have p0 : w2.cell? ⟨w.heap.size, 0, none⟩ = some (.bool true) := (hb2.cell (p := ⟨w.heap.size, 0, none⟩) (by show w.heap.size < _; omega)).trans m0
          have p1 : w2.cell? ⟨w.heap.size, 1, none⟩ = some (.bool true) := (hb2.cell (p := ⟨w.heap.size, 1, none⟩) (by show w.heap.size < _; omega)).trans m1
          clear hb2 HWR hb hf m0 m1
          go_wp2_with fail
          refine (HMK.out _).mono ?_
          rintro e w3 ⟨rfl, hb3⟩
          have hbx := hbw.out.belowA hb3
          have hfx : Fr w1.heap.size none w1 w3 := hfw.out.trans (Fr.of_belowA hb3 hfw.out.size (by intro g o h; cases h))
          clear hb3 HMK hbw hfw p0 p1
          go_wp2_with (at_builtin; refine wpList_append_buf rfl (.tmp 31) (.tmp 32) 9 rfl w1.heap.size none u5 out rfl hbx _ _ rfl (Src.text (s.extract k (k + 1))) ?c1 hfx.size (by intro g o h; cases h) ?_)
          case c1 => rw [← HPL.out]; exact hl3.out
          intro v4 w4 hb4 hg4 hf4 _
          rw [← HM.out] at hb4
          have hfb := hfx.trans hf4
          clear hg4 hf4 hbx hfx
          go_wp2
          go_roundw
          case rel => exact ⟨k + 1, _, by omega, by go_num, hb4, hfb, HI⟩
          case measure => simp [intOf]; omega
        · have e1 : T.toList.isEmpty = false := by rw [Lib.toList_data]; simpa using he
          rw [if_neg (by rw [← hTl]; exact he)] at hp
          have HI : Hid (QInv keptC m (k + 1) (k + 1) (out ++ T.data.toList)) := by
            have := hI.out.esc hkm.out 1 _ hq.symm (hp.trans hTl.symm)
            rw [Nat.sub_self, List.take_zero, List.append_nil] at this
            exact this
          have hl3 : Hid (out.length + T.data.toList.length ≤ 140737488355328) := by have h1 := HBQ.out _ _ _ HI.out; rw [List.length_append] at h1; show _ ≤ _; omega
          clear hp hpos hq hpl hmk hT hTl he hI hmk0 hmk1
          go_wp2_with fail
          refine HWR.out.mono ?_
          rintro e w2 ⟨rfl, hb2⟩
          have hbw : Hid (Buf w2 w1.heap.size none u5 out) := hb.belowA hb2
          have hfw : Hid (Fr w1.heap.size none w1 w2) := hf.trans (Fr.of_belowA hb2 hf.size (by intro g o h; cases h))
          have p0 : w2.cell? ⟨w.heap.size, 0, none⟩ = some (.bool true) := (hb2.cell (p := ⟨w.heap.size, 0, none⟩) (by show w.heap.size < _; omega)).trans m0
          have p1 : w2.cell? ⟨w.heap.size, 1, none⟩ = some (.bool true) := (hb2.cell (p := ⟨w.heap.size, 1, none⟩) (by show w.heap.size < _; omega)).trans m1
          clear hb2 HWR hb hf m0 m1
          go_wp2_with fail
          refine (HMK.out _).mono ?_
          rintro e w3 ⟨rfl, hb3⟩
          have hbx := hbw.out.belowA hb3
          have hfx : Fr w1.heap.size none w1 w3 := hfw.out.trans (Fr.of_belowA hb3 hfw.out.size (by intro g o h; cases h))
          clear hb3 HMK hbw hfw p0 p1
          go_wp2_with (at_builtin; refine wpList_append_buf rfl (.tmp 31) (.tmp 32) 9 rfl w1.heap.size none u5 out rfl hbx _ _ rfl (Src.text T) ?c1 hfx.size (by intro g o h; cases h) ?_)
          case c1 => exact hl3.out
          intro v4 w4 hb4 hg4 hf4 _
          have hfb := hfx.trans hf4
          clear hg4 hf4 hbx hfx
          go_wp2
          go_roundw
          case rel => exact ⟨k + 1, _, by omega, by go_num, hb4, hfb, HI⟩
          case measure => simp [intOf]; omega
      · have hq0 : ¬ (q : Int) ≤ 1 ∨ q = 1 := by omega
        have i3 : ((k : Int) + (q : Int)).toNat = k + q := by omega
        have HWR : Hid (Calls Tryd.prog 27 #[.string s, .int .i64 k] wr (WidthPost q wr)) := by rw [← huq]; exact HWR.out
        clear hu hu4 hwr huq hq0
        by_cases he : T.data.toList = []
        · have e1 : T.toList.isEmpty = true := by rw [Lib.toList_data, he]; rfl
          rw [← hTl, if_pos he] at hp
          have HI : Hid (QInv keptC m (k + q) (k + q) (out ++ (m.drop k).take q)) := by
            have := hI.out.esc hkm.out q _ hq.symm hp
            rw [Nat.sub_self, List.take_zero, List.append_nil] at this
            exact this
          have HPL := Lib.hid hpl
          have hl3 : Hid (out.length + ((m.drop k).take q).length ≤ 140737488355328) := by have h1 := HBQ.out _ _ _ HI.out; rw [List.length_append] at h1; show _ ≤ _; omega
          clear hp hpos hq hpl hmk hT hTl he hI hmk0 hmk1
          go_wp2_with fail
          refine HWR.out.mono ?_
          rintro e w2 ⟨rfl, hb2⟩
          have hbw : Hid (Buf w2 w1.heap.size none u5 out) := hb.belowA hb2
          have hfw : Hid (Fr w1.heap.size none w1 w2) := hf.trans (Fr.of_belowA hb2 hf.size (by intro g o h; cases h))
          have p0 : w2.cell? ⟨w.heap.size, 0, none⟩ = some (.bool true) := (hb2.cell (p := ⟨w.heap.size, 0, none⟩) (by show w.heap.size < _; omega)).trans m0
          have p1 : w2.cell? ⟨w.heap.size, 1, none⟩ = some (.bool true) := (hb2.cell (p := ⟨w.heap.size, 1, none⟩) (by show w.heap.size < _; omega)).trans m1
          clear hb2 HWR hb hf m0 m1
          go_wp2_with fail
          refine (HMK.out _).mono ?_
          rintro e w3 ⟨rfl, hb3⟩
          have hbx := hbw.out.belowA hb3
          have hfx : Fr w1.heap.size none w1 w3 := hfw.out.trans (Fr.of_belowA hb3 hfw.out.size (by intro g o h; cases h))
          clear hb3 HMK hbw hfw p0 p1
          go_wp2_with (at_builtin; refine wpList_append_buf rfl (.tmp 31) (.tmp 32) 9 rfl w1.heap.size none u5 out rfl hbx _ _ rfl (Src.text (s.extract k (k + q))) ?c1 hfx.size (by intro g o h; cases h) ?_)
          case c1 => rw [← HPL.out]; exact hl3.out
          intro v4 w4 hb4 hg4 hf4 _
          rw [← HM.out] at hb4
          have hfb := hfx.trans hf4
          clear hg4 hf4 hbx hfx
          go_wp2
          go_roundw
          case rel => exact ⟨k + q, _, by omega, by go_num, hb4, hfb, HI⟩
          case measure => simp [intOf]; omega
        · have e1 : T.toList.isEmpty = false := by rw [Lib.toList_data]; simpa using he
          rw [if_neg (by rw [← hTl]; exact he)] at hp
          have HI : Hid (QInv keptC m (k + q) (k + q) (out ++ T.data.toList)) := by
            have := hI.out.esc hkm.out q _ hq.symm (hp.trans hTl.symm)
            rw [Nat.sub_self, List.take_zero, List.append_nil] at this
            exact this
          have hl3 : Hid (out.length + T.data.toList.length ≤ 140737488355328) := by have h1 := HBQ.out _ _ _ HI.out; rw [List.length_append] at h1; show _ ≤ _; omega
          clear hp hpos hq hpl hmk hT hTl he hI hmk0 hmk1
          go_wp2_with fail
          refine HWR.out.mono ?_
          rintro e w2 ⟨rfl, hb2⟩
          have hbw : Hid (Buf w2 w1.heap.size none u5 out) := hb.belowA hb2
          have hfw : Hid (Fr w1.heap.size none w1 w2) := hf.trans (Fr.of_belowA hb2 hf.size (by intro g o h; cases h))
          have p0 : w2.cell? ⟨w.heap.size, 0, none⟩ = some (.bool true) := (hb2.cell (p := ⟨w.heap.size, 0, none⟩) (by show w.heap.size < _; omega)).trans m0
          have p1 : w2.cell? ⟨w.heap.size, 1, none⟩ = some (.bool true) := (hb2.cell (p := ⟨w.heap.size, 1, none⟩) (by show w.heap.size < _; omega)).trans m1
          clear hb2 HWR hb hf m0 m1
          go_wp2_with fail
          refine (HMK.out _).mono ?_
          rintro e w3 ⟨rfl, hb3⟩
          have hbx := hbw.out.belowA hb3
          have hfx : Fr w1.heap.size none w1 w3 := hfw.out.trans (Fr.of_belowA hb3 hfw.out.size (by intro g o h; cases h))
          clear hb3 HMK hbw hfw p0 p1
          go_wp2_with (at_builtin; refine wpList_append_buf rfl (.tmp 31) (.tmp 32) 9 rfl w1.heap.size none u5 out rfl hbx _ _ rfl (Src.text T) ?c1 hfx.size (by intro g o h; cases h) ?_)
          case c1 => exact hl3.out
          intro v4 w4 hb4 hg4 hf4 _
          have hfb := hfx.trans hf4
          clear hg4 hf4 hbx hfx
          go_wp2
          go_roundw
          case rel => exact ⟨k + q, _, by omega, by go_num, hb4, hfb, HI⟩
          case measure => simp [intOf]; omega
    · have hkn' : k = n := by omega
      have hfin := hI.out.fin (by rw [HN.out]; exact hkn')
      rw [Nat.sub_self, List.take_zero, List.append_nil, ← HQ.out] at hfin
      subst hfin
      have htx := hb.text
      have HF := Lib.hid hf
      clear hI hkn hb hf m0 m1 hmk0 hmk1
      subst hkn'
      go_wp2
      go_ret
      exact ⟨rfl, HB1.out.trans (HF.out.below.mono (by omega))⟩
end Go.Proofs.YtklncgmfbflooaaDoor
