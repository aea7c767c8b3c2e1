/- The reference's Quote without marks, walked. -/
import Derived.Test.YtldcoaigecnpfaaDoorSpecQuote
import Derived.Test.YtldcoaigecnpfaaDoorImplQuote
namespace Go.Proofs.YtldcoaigecnpfaaDoor
open Go.RowKit
/-- A mended text has characters alone. -/
theorem clean_mend (n : Nat) : ∀ l : List UInt8, l.length ≤ n → cleanL (mendL l) = true := by
  induction n with
  | zero =>
    intro l h
    obtain rfl : l = [] := List.eq_nil_of_length_eq_zero (by omega)
    rfl
  | succ n ih =>
    intro l h
    by_cases hl : 0 < l.length
    · have hw := decW_range l hl
      have ih' := ih (l.drop (decW l)) (by rw [List.length_drop]; omega)
      have e : mendL l = mendC l ++ mendL (l.drop (decW l)) := runF_step _ _ hl
      rw [e]
      by_cases h0 : rlL l = 0
      · have em : mendC l = BR := by unfold mendC; rw [if_pos h0]
        have ed : ∀ X : List UInt8, (BR ++ X).drop 3 = X := fun _ => rfl
        have ec : cleanL (BR ++ mendL (l.drop (decW l))) = (goodC (BR ++ mendL (l.drop (decW l))) && cleanL ((BR ++ mendL (l.drop (decW l))).drop (decW (BR ++ mendL (l.drop (decW l)))))) := allF_step _ _ (by rw [List.length_append]; show 0 < 3 + _; omega)
        have eg : goodC (BR ++ mendL (l.drop (decW l))) = true := by unfold goodC; rw [rlL_BR]; decide
        rw [em, ec, eg, decW_BR, ed, ih']; rfl
      · have em : mendC l = l.take (decW l) := by unfold mendC; rw [if_neg h0]
        have hl2 : (l.take (decW l)).length = decW l := by rw [List.length_take]; omega
        have ec : cleanL (l.take (decW l) ++ mendL (l.drop (decW l))) = (goodC (l.take (decW l) ++ mendL (l.drop (decW l))) && cleanL ((l.take (decW l) ++ mendL (l.drop (decW l))).drop (decW (l.take (decW l) ++ mendL (l.drop (decW l)))))) := allF_step _ _ (by rw [List.length_append, hl2]; omega)
        have eg : goodC (l.take (decW l) ++ mendL (l.drop (decW l))) = true := by unfold goodC; rw [rlL_local l _ hl h0]; simpa using h0
        have ed : (l.take (decW l) ++ mendL (l.drop (decW l))).drop (decW l) = mendL (l.drop (decW l)) := by
          rw [List.drop_append, hl2, Nat.sub_self, List.drop_zero, List.drop_of_length_le (by omega), List.nil_append]
        rw [em, ec, eg, decW_local l _ hl h0, ed, ih']; rfl
    · obtain rfl : l = [] := List.eq_nil_of_length_eq_zero (by omega)
      rfl
set_option maxRecDepth 100000 in
/-- A character of a clean text by the reference is one by the package. -/
theorem qp0_qpiece (l : List UInt8) (hl : 0 < l.length) (h0 : ¬ rlL l = 0) : qp0 (l.take (decW l)) = qpiece false false l := by
  have hw := decW_range l hl
  have hn : natL (l.take (decW l)) 0 = natL l 0 := by
    have := take_app l [] (decW l) 0 (by omega) hw.2.2
    rwa [List.append_nil] at this
  unfold qp0 qpiece
  rw [hn]
  by_cases hlo : natL l 0 < 128
  · rw [if_pos hlo, (decW_ascii l hlo).2]
    have e1 : l.take 1 = [UInt8.ofNat (natL l 0)] := by
      obtain ⟨c, r, rfl⟩ := List.exists_cons_of_length_pos hl
      show [c] = [UInt8.ofNat c.toNat]
      rw [UInt8.ofNat_toNat]
    by_cases q1 : natL l 0 = 34
    · have hm : (mustA (natL l 0) || (false && htmlC (natL l 0))) = true := by rw [q1]; rfl
      rw [if_pos (.inl q1), if_pos hm, e1, q1]
      try rfl
    by_cases q2 : natL l 0 = 92
    · have hm : (mustA (natL l 0) || (false && htmlC (natL l 0))) = true := by rw [q2]; rfl
      rw [if_pos (.inr q2), if_pos hm, e1, q2]
      try rfl
    rw [if_neg (by omega)]
    by_cases q3 : natL l 0 < 32
    · have hm : (mustA (natL l 0) || (false && htmlC (natL l 0))) = true := by unfold mustA; simp [q3]
      rw [if_pos hm]
      unfold escA
      rw [if_neg q1, if_neg q2, if_pos q3]
    · have hm : (mustA (natL l 0) || (false && htmlC (natL l 0))) = false := by unfold mustA; simp; omega
      rw [if_neg (by omega), if_neg (by omega), if_neg (by omega), if_neg (by omega), if_neg (by omega), if_neg q3, if_neg (by rw [hm]; simp)]
  · rw [if_neg hlo, if_neg h0, if_neg (by omega), if_neg (by omega), if_neg (by omega), if_neg (by omega), if_neg (by omega), if_neg (by omega), if_neg (by omega), if_neg (by simp)]
theorem qpiece_take (l r : List UInt8) (hl : 0 < l.length) (h0 : ¬ rlL l = 0) : qpiece false false (l.take (decW l) ++ r) = qpiece false false l := by
  have hw := decW_range l hl
  rw [← qp0_qpiece l hl h0, ← qp0_qpiece (l.take (decW l) ++ r) (by rw [List.length_append, List.length_take]; omega) (by rw [rlL_local l r hl h0]; exact h0), decW_local l r hl h0]
  have e : (l.take (decW l) ++ r).take (decW l) = l.take (decW l) := by rw [List.take_append_of_le_length (by rw [List.length_take]; omega), List.take_take, Nat.min_self]
  rw [e]
set_option maxRecDepth 100000 in
theorem qpiece_broken (l r : List UInt8) (hl : 0 < l.length) (h0 : rlL l = 0) : qpiece false false (BR ++ r) = qpiece false false l := by
  have hb : ¬ natL l 0 < 128 := fun q => by rw [(decW_ascii l q).1] at h0; omega
  rw [qpiece_bad false false l hb h0, qpiece_wide false false (BR ++ r) (by show ¬ 239 < 128; omega) (by rw [rlL_BR]; omega) (.inl rfl), decW_BR]
  rfl
/-- The reference's text of a string is the package's. -/
theorem quote_mend (l : List UInt8) : runF (qpiece false false) 0 (mendL l) = runF (qpiece false false) 0 l :=
  runF_mend (qpiece false false) (fun l r hl h0 => qpiece_take l r hl h0) (fun l r hl h0 => qpiece_broken l r hl h0) l.length l (Nat.le_refl _)
theorem mendL_length (l : List UInt8) : (mendL l).length ≤ 3 * l.length := runF_length mendC 3 (fun l hl => mendC_length l hl) l.length l (Nat.le_refl _)
set_option maxRecDepth 100000 in
set_option maxHeartbeats 4000000 in
/-- The loop over a mended text (its bytes may be more than 2147483647: three times as many). -/
theorem quote0 (s : ByteArray) (w : World) (hs : s.size ≤ 2147483647) :
    Calls Tryd.prog 14 #[.string s, .agg #[.bool false, .bool false]] w (StrBool (quoteL s.data.toList) (cleanL s.data.toList) w) := by
  have hmend := fun W => mended s W hs
  have hsm : (mendL s.data.toList).length ≤ 6442450941 := by have := mendL_length s.data.toList; rw [size_list] at this; omega
  have eq : quoteL s.data.toList = [34] ++ runF (qpiece false false) 0 (mendL s.data.toList) ++ [34] := by rw [quote_mend]; rfl
  have hcm := clean_mend s.data.toList.length s.data.toList (Nat.le_refl _)
  rw [eq]
  generalize cleanL s.data.toList = clean at hmend ⊢
  generalize mendL s.data.toList = m at hmend hsm hcm ⊢
  obtain ⟨M, hM⟩ : ∃ M : ByteArray, M = ⟨m.toArray⟩ := ⟨_, rfl⟩
  have hMl : M.data.toList = m := by rw [hM]
  have hMs : m.length = M.size := by rw [← hMl, size_list]
  unfold StrBool at hmend
  rw [← hM] at hmend
  have hwd := fun (k : Nat) (h : k < M.size) W => width M k W (by omega) h
  rw [hMl] at hwd
  have hM2 : M.size ≤ 6442450941 := by omega
  have hlenQ := runF_length (qpiece false false) 6 (fun l hl => qpiece_length _ _ l hl) m.length m (Nat.le_refl _)
  obtain ⟨Q, hQ⟩ : ∃ Q, Q = runF (qpiece false false) 0 m := ⟨_, rfl⟩
  have hbq : Hid (∀ (k i : Nat) (out : List UInt8), QInv (qpiece false false) m k i out → out.length + (k - i) ≤ 6 * M.size) := fun k i out q => by
    have h1 := q.bound
    omega
  rw [← hQ]
  have HME := Lib.hid hmend
  have HWD := Lib.hid hwd
  have HML := Lib.hid hMl
  have HMS := Lib.hid hMs
  have HQ := Lib.hid hQ
  have hs0 : Hid (QInv (qpiece false false) m 0 0 []) := QInv.start _ m
  have hs1 : Hid (cleanL (m.drop 0) = true) := by show _ = _; rw [List.drop_zero]; exact hcm
  clear hmend hwd hMl hMs hQ hlenQ hcm hsm hM eq
  have hq1 : Hid (∀ W : World, BytesAt (W.alloc (Obj.cells #[.int .u8 34] 5)) W.heap.size 0 [34]) := fun W => bytes_new W [34] 5
  have hstart : Hid (∀ W : World, Buf (W.alloc (Obj.cells #[.int .u8 34] 5)) W.heap.size none (.slice (some ⟨W.heap.size, 0, none⟩) 1 1) [34]) := fun W =>
    .inr ⟨W.heap.size, 0, 1, #[.int .u8 34], (0, 0), rfl, .inl (Nat.le_refl _), alloc_new W _, Nat.le_refl _, by decide, Nat.le_refl _, .inl (Nat.zero_le _), fun j hj => by
      match j, hj with
      | 0, _ => rfl⟩
  go_enter Tryd.func14, Tryd.ntmps14
  go_wp2_with fail
  refine (HME.out _).mono ?_
  rintro e w1 ⟨rfl, hb1⟩
  have hmk0 : w1.cell? ⟨w.heap.size, 0, none⟩ = some (.bool false) := (hb1.cell (p := ⟨w.heap.size, 0, none⟩) (by simp)).trans (by simp)
  have hmk1 : w1.cell? ⟨w.heap.size, 1, none⟩ = some (.bool false) := (hb1.cell (p := ⟨w.heap.size, 1, none⟩) (by simp)).trans (by simp)
  have hz1 : w.heap.size + 1 ≤ w1.heap.size := by have := hb1.size; simpa using this
  have hbel1 : Below w.heap.size w w1 := ((Below.refl _ _).alloc (Nat.le_refl _) _).trans (hb1.mono (by simp))
  have HBEL := Lib.hid hbel1
  have hbst := hstart.out w1
  clear hb1 hbel1 HME hstart
  have HBST := Lib.hid hbst
  clear hbst
  go_wp2
  go_loopw [8, 9] (fun b i wr => ∃ (k : Nat) (out : List UInt8), k ≤ M.size ∧ i = .int .i64 k ∧ Buf wr w1.heap.size none b ([34] ++ out) ∧ Fr w1.heap.size none w1 wr ∧ Hid (QInv (qpiece false false) m k k out) ∧ Hid (cleanL (m.drop k) = true)) (fun _ i _ => M.size - (intOf i).toNat)
  case atStart => exact ⟨0, [], Nat.zero_le _, rfl, HBST.out, Fr.of_below ((Below.refl _ _).alloc (Nat.le_refl _) _) (by intro g o h; cases h), hs0, hs1⟩
  case round =>
    clear hs0 hs1 HBST
    obtain ⟨k, out, hk, rfl, hb, hf, hI, hC⟩ := hrel
    have m0 : wr.cell? ⟨w.heap.size, 0, none⟩ = some (.bool false) := (World.cell?_of_block (a := ⟨w.heap.size, 0, none⟩) (hf.block w.heap.size (by omega) (by intro o h; cases h))).trans hmk0
    have m1 : wr.cell? ⟨w.heap.size, 1, none⟩ = some (.bool false) := (World.cell?_of_block (a := ⟨w.heap.size, 1, none⟩) (hf.block w.heap.size (by omega) (by intro o h; cases h))).trans hmk1
    by_cases hkn : k < M.size
    · have hkm : Hid (k < m.length) := by have := HMS.out; show _ < _; omega
      have hpos := drop_pos hkm.out
      have hdr := decW_range _ hpos
      rw [List.length_drop, HMS.out] at hdr
      have hlen : Hid (out.length ≤ 6 * M.size) := by have := hbq.out _ _ _ hI.out; show _ ≤ _; omega
      have hwr := HWD.out k hkn wr
      obtain ⟨h0, hC'⟩ := cleanL_step _ hpos hC.out
      have e0 := widL_dec _ hpos h0
      have hp := qp0_qpiece _ hpos h0
      obtain ⟨n, hn⟩ : ∃ n, n = decW (m.drop k) := ⟨_, rfl⟩
      rw [e0, ← hn] at hwr
      rw [← hn] at hdr hp
      have HI : Hid (QInv (qpiece false false) m (k + n) (k + n) (out ++ qp0 ((m.drop k).take n))) := by
        have := hI.out.esc hkm.out n _ hn.symm hp.symm
        rw [Nat.sub_self, List.take_zero, List.append_nil] at this
        exact this
      have HC : Hid (cleanL (m.drop (k + n)) = true) := by show _ = _; rw [← hn, List.drop_drop] at hC'; exact hC'
      obtain ⟨n1, n2, n3⟩ := hdr
      have hpl : (m.drop k).take n = (M.extract k (k + n)).data.toList := by rw [Lib.extract_data, HML.out, show k + n - k = n by omega]
      have hps : (M.extract k (k + n)).size = n := by rw [ByteArray.size_extract]; omega
      have hqp := fun W => quotedPart0 (M.extract k (k + n)) W (by omega) (by omega)
      rw [← hpl] at hqp
      have hql : Hid ((qp0 ((m.drop k).take n)).length ≤ 6 * M.size) := by
        have := hbq.out _ _ _ HI.out
        rw [List.length_append] at this
        show _ ≤ _; omega
      generalize qp0 ((m.drop k).take n) = E at HI hqp hql
      have HQP := Lib.hid hqp
      have HWR := Lib.hid hwr
      clear hwr e0 hp h0 hpos hn hC' hpl hps hqp hC hI hmk0 hmk1
      go_wp2_with fail
      refine HWR.out.mono ?_
      rintro e w2 ⟨rfl, hb2⟩
      have hbw : Hid (Buf w2 w1.heap.size none u8 ([34] ++ out)) := hb.belowA hb2
      have hfw : Hid (Fr w1.heap.size none w1 w2) := hf.trans (Fr.of_belowA hb2 hf.size (by intro g o h; cases h))
      have p0 : w2.cell? ⟨w.heap.size, 0, none⟩ = some (.bool false) := (hb2.cell (p := ⟨w.heap.size, 0, none⟩) (by have := hf.size; show w.heap.size < _; omega)).trans m0
      have p1 : w2.cell? ⟨w.heap.size, 1, none⟩ = some (.bool false) := (hb2.cell (p := ⟨w.heap.size, 1, none⟩) (by have := hf.size; show w.heap.size < _; omega)).trans m1
      clear hb2 HWR hb hf m0 m1
      have hl3 : Hid (([34] ++ out).length + E.length ≤ 140737488355328) := by
        have := hbq.out _ _ _ HI.out
        rw [List.length_append] at this
        show _ ≤ _; simp; omega
      have hbx : Hid (Src w2 9 (.string ⟨E.toArray⟩) E) := Src.text ⟨E.toArray⟩
      go_wp2
      have i1 : IntKind.i64.wrap ((k : Int) + (n : Int)) = (k : Int) + (n : Int) := by rw [IntKind.wrap_i64]; omega
      have i2 : (0 : Int) ≤ (k : Int) + (n : Int) := by omega
      have i3 : ((k : Int) + (n : Int)).toNat = k + n := by omega
      have i4 : (k : Int) + (n : Int) ≤ (M.size : Int) := by omega
      have i5 : (k : Int) ≤ (k : Int) + (n : Int) := by omega
      go_region_law (first | (refine step_append_buf rfl (.tmp 24) (.tmp 32) 9 rfl w1.heap.size none u8 ([34] ++ out) rfl hbq3.out _ E rfl (Src.text ⟨E.toArray⟩) hl3.out hsz3.out (by intro g o h; cases h) ?_; intro v4 w4 hb4 hg4 hf4 _) | (go_simp; go_at_call 27; refine (HQP.out _).mono ?_; rintro e w3 ⟨rfl, hb3⟩; have hbq3 : Hid (Buf w3 w1.heap.size none u8 ([34] ++ out)) := (show Buf w2.drew w1.heap.size none u8 ([34] ++ out) from hbw.out).belowA hb3; have hsz3 : Hid (w1.heap.size ≤ w3.heap.size) := Nat.le_trans hfw.out.size hb3.size; have hfx : Hid (Fr w1.heap.size none w1 w3) := hfw.out.trans (Fr.of_belowA (show Below w2.heap.size w2 w3 from ⟨hb3.os, hb3.tape, hb3.output, hb3.size, hb3.block⟩) hfw.out.size (by intro g o h; cases h)); clear hb3))
      all_goals
        clear i1 i2 i3 i4 i5
        have hfb := hfx.out.trans hf4
        clear hg4 hf4 hfx hbq3 hsz3
        go_wp2
        go_roundw
        case rel => exact ⟨k + n, out ++ E, by omega, by go_num, by simpa only [List.append_assoc] using hb4, hfb, HI, HC⟩
        case measure => simp [intOf]; omega
    · have hkn' : k = M.size := by omega
      have hfin := hI.out.fin (by rw [HMS.out]; exact hkn')
      rw [Nat.sub_self, List.take_zero, List.append_nil, ← HQ.out] at hfin
      subst hfin
      have hlen : Hid (Q.length ≤ 6 * M.size) := by have := hbq.out _ _ _ hI.out; show _ ≤ _; omega
      have HQ1 := hq1.out wr
      have HQ1' := Lib.hid HQ1
      clear hI hC hkn HQ1 m0 m1 hmk0 hmk1
      subst hkn'
      go_wp2_with (at_builtin; refine wpList_append_buf rfl (.tmp 37) (.tmp 38) 23 rfl w1.heap.size none u8 ([34] ++ Q) rfl (hb.alloc _) _ [34] rfl (src_new rfl HQ1'.out) ?c1 ?c2 (by intro g o h; cases h) ?_)
      case c1 => have h2 := hlen.out; simp; omega
      case c2 => have h1 := hf.size; simp; omega
      intro v2 w2 hb2 hg2 hf2 _
      have hfb : Fr w1.heap.size none w1 w2 := Fr.trans (hf.alloc _ (Nat.le_refl _) (by intro g o h; cases h)) hf2
      have htx := hb2.text
      have HF := Lib.hid hfb
      clear hg2 hf2 hb hf HQ1' hb2 hfb
      go_wp2
      go_ret2
      exact ⟨rfl, HBEL.out.trans (HF.out.below.mono (by omega))⟩
end Go.Proofs.YtldcoaigecnpfaaDoor
