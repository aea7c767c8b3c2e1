/- The reference's Quote with any marks, walked. -/
import Derived.Test.YtldcoaigecnpfaaDoorGMarkG
namespace Go.Proofs.YtldcoaigecnpfaaDoor
open Go.RowKit
theorem natL_take (l : List UInt8) (k j : Nat) (h : j < k) : natL (l.take k) j = natL l j := by
  unfold natL
  rw [List.getD_eq_getElem?_getD, List.getD_eq_getElem?_getD, List.getElem?_take, if_pos h]
theorem list3 (l : List UInt8) (a b c : UInt8) (h0 : natL l 0 = a.toNat) (h1 : natL l 1 = b.toNat) (h2 : natL l 2 = c.toNat) (hl : l.length = 3) : l = [a, b, c] := by
  match l, hl with
  | [x, y, z], _ =>
    have e0 : x.toNat = a.toNat := h0
    have e1 : y.toNat = b.toNat := h1
    have e2 : z.toNat = c.toNat := h2
    rw [UInt8.toNat_inj.1 e0, UInt8.toNat_inj.1 e1, UInt8.toNat_inj.1 e2]
theorem list1 (l : List UInt8) (a : UInt8) (h0 : natL l 0 = a.toNat) (hl : l.length = 1) : l = [a] := by
  match l, hl with
  | [x], _ =>
    have e0 : x.toNat = a.toNat := h0
    rw [UInt8.toNat_inj.1 e0]
theorem js_three (l : List UInt8) (h0 : natL l 0 = 226) (h1 : natL l 1 = 128) (h2 : natL l 2 = 168 ∨ natL l 2 = 169) : decW l = 3 := by
  have hlen : 3 ≤ l.length := by
    rcases Nat.lt_or_ge 2 l.length with h | h
    · omega
    · have : natL l 2 = 0 := by unfold natL; rw [List.getD_eq_getElem?_getD, List.getElem?_eq_none (by omega)]; rfl
      omega
  have e : rlL l = 3 := by
    have hx : rlL l = rl l.length (atL l 0) (atL l 1) (atL l 2) (atL l 3) := rfl
    rw [hx, natL_at, natL_at, natL_at, natL_at, h0, h1]
    unfold rl
    (repeat' split) <;> omega
  unfold decW; rw [e]; rfl
/-- What a character's mark is, by its bytes. -/
def markC (mh mj : Bool) (l : List UInt8) : List UInt8 := if (mh && htmlC (natL l 0)) = true then u4 (natL l 0) else if (mj && decide (¬ jsN l = 0)) = true then u4 (jsN l) else []
theorem mark_take (mh mj : Bool) (l : List UInt8) (hl : 0 < l.length) : markG mh mj (l.take (decW l)) = markC mh mj l := by
  have hw := decW_range l hl
  have hn0 := natL_take l (decW l) 0 (by omega)
  have hlen : (l.take (decW l)).length = decW l := by rw [List.length_take]; omega
  by_cases hh : htmlC (natL l 0) = true
  · have h3 : natL l 0 = 60 ∨ natL l 0 = 62 ∨ natL l 0 = 38 := by unfold htmlC at hh; simpa [or_assoc] using hh
    have hd : decW l = 1 := (decW_ascii l (by omega)).2
    have hj : jsN l = 0 := by unfold jsN; rw [if_neg (by omega), if_neg (by omega)]
    have hf : (mj && decide (¬ jsN l = 0)) = false := by rw [hj]; simp
    unfold markC
    rw [hf]
    rcases h3 with h | h | h
    · have e := list1 (l.take (decW l)) 60 (by rw [hn0, h]; rfl) (by rw [hlen, hd])
      rw [e, h]; cases mh <;> cases mj <;> rfl
    · have e := list1 (l.take (decW l)) 62 (by rw [hn0, h]; rfl) (by rw [hlen, hd])
      rw [e, h]; cases mh <;> cases mj <;> rfl
    · have e := list1 (l.take (decW l)) 38 (by rw [hn0, h]; rfl) (by rw [hlen, hd])
      rw [e, h]; cases mh <;> cases mj <;> rfl
  · have hf : (mh && htmlC (natL l 0)) = false := by rw [Bool.eq_false_iff.2 hh]; simp
    unfold markC
    rw [hf, if_neg (by decide)]
    by_cases hj : jsN l = 0
    · have n1 : ∀ a : UInt8, htmlC a.toNat = true → ¬ l.take (decW l) = [a] := fun a ha e => by
        rw [e] at hn0
        have : natL [a] 0 = a.toNat := rfl
        rw [this] at hn0
        rw [← hn0] at hh
        exact hh ha
      have n3 : ∀ a : UInt8, a.toNat = 168 ∨ a.toNat = 169 → ¬ l.take (decW l) = [226, 128, a] := fun a ha e => by
        have hd : decW l = 3 := by rw [← hlen, e]; rfl
        have q1 := natL_take l (decW l) 1 (by omega)
        have q2 := natL_take l (decW l) 2 (by omega)
        rw [e] at hn0 q1 q2
        have p0 : natL l 0 = 226 := hn0.symm
        have p1 : natL l 1 = 128 := q1.symm
        have p2 : natL l 2 = a.toNat := q2.symm
        unfold jsN at hj
        rcases ha with ha | ha
        · rw [if_pos ⟨p0, p1, by omega⟩] at hj; omega
        · rw [if_neg (fun z => by have := z.2.2; omega), if_pos ⟨p0, p1, by omega⟩] at hj; omega
      unfold markG
      rw [if_neg (fun z => n1 60 rfl z.2), if_neg (fun z => n1 62 rfl z.2), if_neg (fun z => n1 38 rfl z.2), if_neg (fun z => n3 168 (.inl rfl) z.2), if_neg (fun z => n3 169 (.inr rfl) z.2), if_neg]
      rw [hj]; simp
    · by_cases h8 : natL l 0 = 226 ∧ natL l 1 = 128 ∧ natL l 2 = 168
      · have hd := js_three l h8.1 h8.2.1 (.inl h8.2.2)
        have e := list3 (l.take (decW l)) 226 128 168 (by rw [hn0, h8.1]; rfl) (by rw [natL_take l _ 1 (by omega), h8.2.1]; rfl) (by rw [natL_take l _ 2 (by omega), h8.2.2]; rfl) (by rw [hlen, hd])
        have ej : jsN l = 8232 := by unfold jsN; rw [if_pos h8]
        rw [e, ej]; cases mh <;> cases mj <;> rfl
      · by_cases h9 : natL l 0 = 226 ∧ natL l 1 = 128 ∧ natL l 2 = 169
        · have hd := js_three l h9.1 h9.2.1 (.inr h9.2.2)
          have e := list3 (l.take (decW l)) 226 128 169 (by rw [hn0, h9.1]; rfl) (by rw [natL_take l _ 1 (by omega), h9.2.1]; rfl) (by rw [natL_take l _ 2 (by omega), h9.2.2]; rfl) (by rw [hlen, hd])
          have ej : jsN l = 8233 := by unfold jsN; rw [if_neg h8, if_pos h9]
          rw [e, ej]; cases mh <;> cases mj <;> rfl
        · exact absurd (by unfold jsN; rw [if_neg h8, if_neg h9]) hj
theorem u4_ne (n : Nat) : ¬ u4 n = [] := fun q => by have := u4_length n; rw [q] at this; simp at this
theorem markC_html {mh _mj : Bool} {l : List UInt8} (h : (mh && htmlC (natL l 0)) = true) : mh = true ∧ (natL l 0 = 60 ∨ natL l 0 = 62 ∨ natL l 0 = 38) := by
  rw [Bool.and_eq_true] at h
  refine ⟨h.1, ?_⟩
  have hh := h.2
  unfold htmlC at hh
  simpa [or_assoc] using hh
theorem jsN_226 {l : List UInt8} (h : ¬ jsN l = 0) : natL l 0 = 226 := by
  unfold jsN at h
  by_cases a : natL l 0 = 226
  · exact a
  · rw [if_neg (fun q => a q.1), if_neg (fun q => a q.1)] at h
    exact absurd rfl h
theorem qpG_qpiece (mh mj : Bool) (l : List UInt8) (hl : 0 < l.length) (h0 : ¬ rlL l = 0) : qpG mh mj (l.take (decW l)) = qpiece mh mj l := by
  unfold qpG
  rw [mark_take mh mj l hl]
  unfold markC
  by_cases A : (mh && htmlC (natL l 0)) = true
  · obtain ⟨a, b⟩ := markC_html (_mj := mj) A
    rw [if_pos A, if_neg (u4_ne _), qpiece_esc mh mj l (by omega) (Or.inr (by rw [Bool.and_eq_true] at A; exact A))]
    unfold escA
    rw [if_neg (by omega), if_neg (by omega), if_neg (by omega), if_neg (by omega), if_neg (by omega), if_neg (by omega), if_neg (by omega)]
  · rw [if_neg A]
    by_cases B : (mj && decide (¬ jsN l = 0)) = true
    · rw [if_pos B, if_neg (u4_ne _)]
      rw [Bool.and_eq_true, decide_eq_true_iff] at B
      have h226 := jsN_226 B.2
      obtain ⟨rfl, hj⟩ := B
      rw [qpiece_js mh l (by omega) h0 hj]
    · rw [if_neg B, if_pos rfl, qp0_qpiece l hl h0]
      have A' : (mh && htmlC (natL l 0)) = false := by simpa using A
      have B' : (mj && decide (¬ jsN l = 0)) = false := Bool.eq_false_iff.2 B
      unfold qpiece
      rw [A', B']
      rfl
theorem qpiece_takeG (mh mj : Bool) (l r : List UInt8) (hl : 0 < l.length) (h0 : ¬ rlL l = 0) : qpiece mh mj (l.take (decW l) ++ r) = qpiece mh mj l := by
  have hw := decW_range l hl
  rw [← qpG_qpiece mh mj l hl h0, ← qpG_qpiece mh mj (l.take (decW l) ++ r) (by rw [List.length_append, List.length_take]; omega) (by rw [rlL_local l r hl h0]; exact h0), decW_local l r hl h0]
  have e : (l.take (decW l) ++ r).take (decW l) = l.take (decW l) := by rw [List.take_append_of_le_length (by rw [List.length_take]; omega), List.take_take, Nat.min_self]
  rw [e]
theorem jsN_BR (r : List UInt8) : jsN (BR ++ r) = 0 := by
  unfold jsN
  rw [if_neg (fun q => absurd q.1 (by show ¬ 239 = 226; decide)), if_neg (fun q => absurd q.1 (by show ¬ 239 = 226; decide))]
set_option maxRecDepth 100000 in
theorem qpiece_brokenG (mh mj : Bool) (l r : List UInt8) (_hl : 0 < l.length) (h0 : rlL l = 0) : qpiece mh mj (BR ++ r) = qpiece mh mj l := by
  have hb : ¬ natL l 0 < 128 := fun q => by rw [(decW_ascii l q).1] at h0; omega
  rw [qpiece_bad mh mj l hb h0, qpiece_wide mh mj (BR ++ r) (by show ¬ 239 < 128; omega) (by rw [rlL_BR]; omega) (.inr (jsN_BR r)), decW_BR]
  rfl
/-- The reference's text of a string is the package's. -/
theorem quote_mendG (mh mj : Bool) (l : List UInt8) : runF (qpiece mh mj) 0 (mendL l) = runF (qpiece mh mj) 0 l :=
  runF_mend (qpiece mh mj) (fun l r hl h0 => qpiece_takeG mh mj l r hl h0) (fun l r hl h0 => qpiece_brokenG mh mj l r hl h0) l.length l (Nat.le_refl _)
def quoteM (mh mj : Bool) (l : List UInt8) : List UInt8 := [34] ++ runF (qpiece mh mj) 0 l ++ [34]
set_option maxRecDepth 100000 in
set_option maxHeartbeats 4000000 in
/-- The loop over a mended text (its bytes may be more than 2147483647: three times as many). -/
theorem quoteGS (mh mj : Bool) (s : ByteArray) (w : World) (hs : s.size ≤ 2147483647) :
    Calls Tryd.prog 14 #[.string s, .agg #[.bool mh, .bool mj]] w (StrBool (quoteM mh mj s.data.toList) (cleanL s.data.toList) w) := by
  have hmend := fun W => mended s W hs
  have hsm : (mendL s.data.toList).length ≤ 6442450941 := by have := mendL_length s.data.toList; rw [size_list] at this; omega
  have eq : quoteM mh mj s.data.toList = [34] ++ runF (qpiece mh mj) 0 (mendL s.data.toList) ++ [34] := by rw [quote_mendG]; rfl
  have hcm := clean_mend s.data.toList.length s.data.toList (Nat.le_refl _)
  rw [eq]
  generalize cleanL s.data.toList = clean at hmend ⊢
  generalize mendL s.data.toList = m at hmend hsm hcm ⊢
  obtain ⟨M, hM⟩ : ∃ M : ByteArray, M = ⟨m.toArray⟩ := ⟨_, rfl⟩
  have hMl : M.data.toList = m := by rw [hM]
  have hMs : m.length = M.size := by rw [← hMl, size_list]
  unfold StrBool at hmend
  rw [← hM] at hmend
  have hwd := fun (k : Nat) (h : k < M.size) W => width M k W (by omega) h
  rw [hMl] at hwd
  have hM2 : M.size ≤ 6442450941 := by omega
  have hlenQ := runF_length (qpiece mh mj) 6 (fun l hl => qpiece_length _ _ l hl) m.length m (Nat.le_refl _)
  obtain ⟨Q, hQ⟩ : ∃ Q, Q = runF (qpiece mh mj) 0 m := ⟨_, rfl⟩
  have hbq : Hid (∀ (k i : Nat) (out : List UInt8), QInv (qpiece mh mj) m k i out → out.length + (k - i) ≤ 6 * M.size) := fun k i out q => by
    have h1 := q.bound
    omega
  rw [← hQ]
  have HME := Lib.hid hmend
  have HWD := Lib.hid hwd
  have HML := Lib.hid hMl
  have HMS := Lib.hid hMs
  have HQ := Lib.hid hQ
  have hs0 : Hid (QInv (qpiece mh mj) m 0 0 []) := QInv.start _ m
  have hs1 : Hid (cleanL (m.drop 0) = true) := by show _ = _; rw [List.drop_zero]; exact hcm
  clear hmend hwd hMl hMs hQ hlenQ hcm hsm hM eq
  have hq1 : Hid (∀ W : World, BytesAt (W.alloc (Obj.cells #[.int .u8 34] 5)) W.heap.size 0 [34]) := fun W => bytes_new W [34] 5
  have hstart : Hid (∀ W : World, Buf (W.alloc (Obj.cells #[.int .u8 34] 5)) W.heap.size none (.slice (some ⟨W.heap.size, 0, none⟩) 1 1) [34]) := fun W =>
    .inr ⟨W.heap.size, 0, 1, #[.int .u8 34], (0, 0), rfl, .inl (Nat.le_refl _), alloc_new W _, Nat.le_refl _, by decide, Nat.le_refl _, .inl (Nat.zero_le _), fun j hj => by
      match j, hj with
      | 0, _ => rfl⟩
  go_enter Tryd.func14, Tryd.ntmps14
  go_wp2_with fail
  refine (HME.out _).mono ?_
  rintro e w1 ⟨rfl, hb1⟩
  have hmk0 : w1.cell? ⟨w.heap.size, 0, none⟩ = some (.bool mh) := (hb1.cell (p := ⟨w.heap.size, 0, none⟩) (by simp)).trans (by simp)
  have hmk1 : w1.cell? ⟨w.heap.size, 1, none⟩ = some (.bool mj) := (hb1.cell (p := ⟨w.heap.size, 1, none⟩) (by simp)).trans (by simp)
  have hz1 : w.heap.size + 1 ≤ w1.heap.size := by have := hb1.size; simpa using this
  have hbel1 : Below w.heap.size w w1 := ((Below.refl _ _).alloc (Nat.le_refl _) _).trans (hb1.mono (by simp))
  have HBEL := Lib.hid hbel1
  have hbst := hstart.out w1
  clear hb1 hbel1 HME hstart
  have HBST := Lib.hid hbst
  clear hbst
  go_wp2
  go_loopw [8, 9] (fun b i wr => ∃ (k : Nat) (out : List UInt8), k ≤ M.size ∧ i = .int .i64 k ∧ Buf wr w1.heap.size none b ([34] ++ out) ∧ Fr w1.heap.size none w1 wr ∧ Hid (QInv (qpiece mh mj) m k k out) ∧ Hid (cleanL (m.drop k) = true)) (fun _ i _ => M.size - (intOf i).toNat)
  case atStart => exact ⟨0, [], Nat.zero_le _, rfl, HBST.out, Fr.of_below ((Below.refl _ _).alloc (Nat.le_refl _) _) (by intro g o h; cases h), hs0, hs1⟩
  case round =>
    clear hs0 hs1 HBST
    obtain ⟨k, out, hk, rfl, hb, hf, hI, hC⟩ := hrel
    have m0 : wr.cell? ⟨w.heap.size, 0, none⟩ = some (.bool mh) := (World.cell?_of_block (a := ⟨w.heap.size, 0, none⟩) (hf.block w.heap.size (by omega) (by intro o h; cases h))).trans hmk0
    have m1 : wr.cell? ⟨w.heap.size, 1, none⟩ = some (.bool mj) := (World.cell?_of_block (a := ⟨w.heap.size, 1, none⟩) (hf.block w.heap.size (by omega) (by intro o h; cases h))).trans hmk1
    by_cases hkn : k < M.size
    · have hkm : Hid (k < m.length) := by have := HMS.out; show _ < _; omega
      have hpos := drop_pos hkm.out
      have hdr := decW_range _ hpos
      rw [List.length_drop, HMS.out] at hdr
      have hlen : Hid (out.length ≤ 6 * M.size) := by have := hbq.out _ _ _ hI.out; show _ ≤ _; omega
      have hwr := HWD.out k hkn wr
      obtain ⟨h0, hC'⟩ := cleanL_step _ hpos hC.out
      have e0 := widL_dec _ hpos h0
      have hp := qpG_qpiece mh mj _ hpos h0
      obtain ⟨n, hn⟩ : ∃ n, n = decW (m.drop k) := ⟨_, rfl⟩
      rw [e0, ← hn] at hwr
      rw [← hn] at hdr hp
      have HI : Hid (QInv (qpiece mh mj) m (k + n) (k + n) (out ++ qpG mh mj ((m.drop k).take n))) := by
        have := hI.out.esc hkm.out n _ hn.symm hp.symm
        rw [Nat.sub_self, List.take_zero, List.append_nil] at this
        exact this
      have HC : Hid (cleanL (m.drop (k + n)) = true) := by show _ = _; rw [← hn, List.drop_drop] at hC'; exact hC'
      obtain ⟨n1, n2, n3⟩ := hdr
      have hpl : (m.drop k).take n = (M.extract k (k + n)).data.toList := by rw [Lib.extract_data, HML.out, show k + n - k = n by omega]
      have hps : (M.extract k (k + n)).size = n := by rw [ByteArray.size_extract]; omega
      have hqp := fun W => quotedPartG mh mj (M.extract k (k + n)) W (by omega) (by omega)
      rw [← hpl] at hqp
      have hql : Hid ((qpG mh mj ((m.drop k).take n)).length ≤ 6 * M.size) := by
        have := hbq.out _ _ _ HI.out
        rw [List.length_append] at this
        show _ ≤ _; omega
      generalize qpG mh mj ((m.drop k).take n) = E at HI hqp hql
      have HQP := Lib.hid hqp
      have HWR := Lib.hid hwr
      clear hwr e0 hp h0 hpos hn hC' hpl hps hqp hC hI hmk0 hmk1
      go_wp2_with fail
      refine HWR.out.mono ?_
      rintro e w2 ⟨rfl, hb2⟩
      have hbw : Hid (Buf w2 w1.heap.size none u8 ([34] ++ out)) := hb.belowA hb2
      have hfw : Hid (Fr w1.heap.size none w1 w2) := hf.trans (Fr.of_belowA hb2 hf.size (by intro g o h; cases h))
      have p0 : w2.cell? ⟨w.heap.size, 0, none⟩ = some (.bool mh) := (hb2.cell (p := ⟨w.heap.size, 0, none⟩) (by have := hf.size; show w.heap.size < _; omega)).trans m0
      have p1 : w2.cell? ⟨w.heap.size, 1, none⟩ = some (.bool mj) := (hb2.cell (p := ⟨w.heap.size, 1, none⟩) (by have := hf.size; show w.heap.size < _; omega)).trans m1
      clear hb2 HWR hb hf m0 m1
      have hl3 : Hid (([34] ++ out).length + E.length ≤ 140737488355328) := by
        have := hbq.out _ _ _ HI.out
        rw [List.length_append] at this
        show _ ≤ _; simp; omega
      have hbx : Hid (Src w2 9 (.string ⟨E.toArray⟩) E) := Src.text ⟨E.toArray⟩
      go_wp2
      have i1 : IntKind.i64.wrap ((k : Int) + (n : Int)) = (k : Int) + (n : Int) := by rw [IntKind.wrap_i64]; omega
      have i2 : (0 : Int) ≤ (k : Int) + (n : Int) := by omega
      have i3 : ((k : Int) + (n : Int)).toNat = k + n := by omega
      have i4 : (k : Int) + (n : Int) ≤ (M.size : Int) := by omega
      have i5 : (k : Int) ≤ (k : Int) + (n : Int) := by omega
      go_region_law (first | (refine step_append_buf rfl (.tmp 24) (.tmp 32) 9 rfl w1.heap.size none u8 ([34] ++ out) rfl hbq3.out _ E rfl (Src.text ⟨E.toArray⟩) hl3.out hsz3.out (by intro g o h; cases h) ?_; intro v4 w4 hb4 hg4 hf4 _) | (go_simp; go_at_call 27; refine (HQP.out _).mono ?_; rintro e w3 ⟨rfl, hb3⟩; have hbq3 : Hid (Buf w3 w1.heap.size none u8 ([34] ++ out)) := (show Buf w2.drew w1.heap.size none u8 ([34] ++ out) from hbw.out).belowA hb3; have hsz3 : Hid (w1.heap.size ≤ w3.heap.size) := Nat.le_trans hfw.out.size hb3.size; have hfx : Hid (Fr w1.heap.size none w1 w3) := hfw.out.trans (Fr.of_belowA (show Below w2.heap.size w2 w3 from ⟨hb3.os, hb3.tape, hb3.output, hb3.size, hb3.block⟩) hfw.out.size (by intro g o h; cases h)); clear hb3))
      all_goals
        clear i1 i2 i3 i4 i5
        have hfb := hfx.out.trans hf4
        clear hg4 hf4 hfx hbq3 hsz3
        go_wp2
        go_roundw
        case rel => exact ⟨k + n, out ++ E, by omega, by go_num, by simpa only [List.append_assoc] using hb4, hfb, HI, HC⟩
        case measure => simp [intOf]; omega
    · have hkn' : k = M.size := by omega
      have hfin := hI.out.fin (by rw [HMS.out]; exact hkn')
      rw [Nat.sub_self, List.take_zero, List.append_nil, ← HQ.out] at hfin
      subst hfin
      have hlen : Hid (Q.length ≤ 6 * M.size) := by have := hbq.out _ _ _ hI.out; show _ ≤ _; omega
      have HQ1 := hq1.out wr
      have HQ1' := Lib.hid HQ1
      clear hI hC hkn HQ1 m0 m1 hmk0 hmk1
      subst hkn'
      go_wp2_with (at_builtin; refine wpList_append_buf rfl (.tmp 37) (.tmp 38) 23 rfl w1.heap.size none u8 ([34] ++ Q) rfl (hb.alloc _) _ [34] rfl (src_new rfl HQ1'.out) ?c1 ?c2 (by intro g o h; cases h) ?_)
      case c1 => have h2 := hlen.out; simp; omega
      case c2 => have h1 := hf.size; simp; omega
      intro v2 w2 hb2 hg2 hf2 _
      have hfb : Fr w1.heap.size none w1 w2 := Fr.trans (hf.alloc _ (Nat.le_refl _) (by intro g o h; cases h)) hf2
      have htx := hb2.text
      have HF := Lib.hid hfb
      clear hg2 hf2 hb hf HQ1' hb2 hfb
      go_wp2
      go_ret2
      exact ⟨rfl, HBEL.out.trans (HF.out.below.mono (by omega))⟩
end Go.Proofs.YtldcoaigecnpfaaDoor
