/- jsonwire.AppendQuote over bytes behind an offset of their block, and over no bytes; walked. -/
import Derived.Test.YtldcoaigecnpfaaDoorGAppendQuote
namespace Go.Proofs.YtldcoaigecnpfaaDoor
open Go.RowKit
theorem src_partO {w : World} {g sO : Nat} {m : List UInt8} (h : BytesAt w g sO m) (a b c : Nat) (hab : a ≤ b) (hb : b ≤ m.length) : Src w 23 (.slice (some ⟨g, sO + a, none⟩) (b - a) c) ((m.drop a).take (b - a)) := by
  have hl : ((m.drop a).take (b - a)).length = b - a := by simp; omega
  have := Src.slice g (sO + a) c ((m.drop a).take (b - a)) (w := w) (fun j hj => by
    rw [hl] at hj
    have e := h (a + j) (by omega)
    rw [show sO + a + j = sO + (a + j) by omega, e]
    unfold atL
    simp [List.getD_eq_getElem?_getD, hj])
  rw [hl] at this
  exact this
set_option maxRecDepth 100000 in
set_option maxHeartbeats 8000000 in
theorem appendQuoteO (sO : Nat) (base : Nat) (G : Option (Nat × Nat)) (v : Value) (l : List UInt8) (g cap : Nat) (m : List UInt8) (F : Nat) (P V : Int) (E : Addr) (w : World)
    (hB : Buf w base G v l) (hm : BytesAt w g sO m) (hcap : m.length ≤ cap) (_hcm : cap ≤ maxLen) (hsz : l.length + 6 * m.length + 8 ≤ 140737488355328) (hbase : base ≤ w.heap.size) (hG : ∀ g o, G = some (g, o) → g < base)
    (hg : g < base) (hgG : ∀ o, G ≠ some (g, o)) (hT : Tabs w E) (hGB : GB ≤ base) (hGG : ∀ g o, G = some (g, o) → GB ≤ g) (hF : F < base) (hFG : ∀ o, G ≠ some (F, o))
    (hF0 : w.cell? ⟨F, 0, none⟩ = some (.int .u64 P)) (hF1 : w.cell? ⟨F, 1, none⟩ = some (.int .u64 V)) :
    Calls Tryd.prog 47 #[v, .slice (some ⟨g, sO, none⟩) m.length cap, .pointer (some ⟨F, 0, none⟩)] w (QuotePost base G (l ++ [34] ++ runF (qpiece (flagB V 512) (flagB V 1024)) 0 m ++ [34]) (errOf (!cleanL m && !flagB V 4) E) w) := by
  obtain ⟨p, hp⟩ : ∃ p, p = qpiece (flagB V 512) (flagB V 1024) := ⟨_, rfl⟩
  have hlenQ := runF_length (qpiece (flagB V 512) (flagB V 1024)) 6 (fun l hl => qpiece_length _ _ l hl) m.length m (Nat.le_refl _)
  rw [← hp] at hlenQ ⊢
  obtain ⟨Q, hQ⟩ : ∃ Q, Q = runF p 0 m := ⟨_, rfl⟩
  rw [← hQ] at hlenQ ⊢
  obtain ⟨clean, hcl⟩ : ∃ c, c = cleanL m := ⟨_, rfl⟩
  rw [← hcl]
  obtain ⟨html, hh⟩ : ∃ c, c = flagB V 512 := ⟨_, rfl⟩
  obtain ⟨js, hj⟩ : ∃ c, c = flagB V 1024 := ⟨_, rfl⟩
  obtain ⟨allow, ha⟩ : ∃ c, c = flagB V 4 := ⟨_, rfl⟩
  rw [← ha]
  rw [← hh, ← hj] at hp
  have G5 : Hid (∀ W, Calls Tryd.prog 52 #[.agg #[.int .u64 P, .int .u64 V], .int .u64 512] W (GetPost html W)) := fun W => by rw [hh]; exact getFlag P V 512 W
  have G10 : Hid (∀ W, Calls Tryd.prog 52 #[.agg #[.int .u64 P, .int .u64 V], .int .u64 1024] W (GetPost js W)) := fun W => by rw [hj]; exact getFlag P V 1024 W
  have G4 : Hid (∀ W, Calls Tryd.prog 52 #[.agg #[.int .u64 P, .int .u64 V], .int .u64 4] W (GetPost allow W)) := fun W => by rw [ha]; exact getFlag P V 4 W
  clear hh hj ha
  obtain ⟨n, hn⟩ : ∃ n, n = m.length := ⟨_, rfl⟩
  have hgrow := growBuf base G v l (n + 2) w hB (by omega) hbase hG
  rw [← hn] at hcap hsz hlenQ ⊢
  have eg : ((n + 2 : Nat) : Int) = 1 + (n : Int) + 1 := by omega
  rw [eg] at hgrow
  have hnb : n ≤ 23456248059221 := by omega
  have HGR := Lib.hid hgrow
  have HN := Lib.hid hn
  have HP := Lib.hid hp
  have HQ := Lib.hid hQ
  have HCL := Lib.hid hcl
  have HLQ := Lib.hid hlenQ
  have HSZ := Lib.hid hsz
  have HT := Lib.hid hT
  have HM := Lib.hid hm
  have HF0 := Lib.hid hF0
  have HF1 := Lib.hid hF1
  have hbq : ∀ {k i : Nat} {out : List UInt8}, QInv p m k i out → out.length + (k - i) ≤ 6 * n := fun q => by have h1 := q.bound; rw [← HQ.out] at h1; have := HLQ.out; omega
  have HBQ : Hid (∀ (k i : Nat) (out : List UInt8), QInv p m k i out → out.length + (k - i) ≤ 6 * n) := fun _ _ _ q => hbq q
  have hs0 : Hid (QInv p m 0 0 []) := QInv.start p m
  have hs1 : Hid (CInv m 0 false) := CInv.start m
  clear eg hgrow hn hp hQ hcl hlenQ hsz hT hm hF0 hF1 hB hbq
  go_enter Tryd.func47, Tryd.ntmps47
  go_wp2_with fail
  refine HGR.out.mono ?_
  rintro e w1 ⟨v1, rfl, hb1, hf1⟩
  clear HGR
  have hq1 : Hid (BytesAt (w1.alloc (Obj.cells #[.int .u8 34] 5)) w1.heap.size 0 [34]) := bytes_new w1 [34] 5
  go_wp2_with (at_builtin; refine wpList_append_buf rfl (.tmp 20) (.tmp 21) 23 rfl base G v1 l rfl (hb1.alloc _) _ [34] rfl (src_new rfl hq1.out) ?c1 ?c2 hG ?_)
  case c1 => have := HSZ.out; simp; omega
  case c2 => have := hf1.size; simp; omega
  intro v2 w2 hb2 hg2 hf2 _
  have hf3 := Fr.trans (hf1.alloc _ hbase hG) hf2
  obtain ⟨L0, hL0⟩ : ∃ L0, L0 = l ++ [34] := ⟨_, rfl⟩
  rw [← hL0] at hb2
  have HL0 := Lib.hid hL0
  have hsz0 : Hid (L0.length + 6 * n + 7 ≤ 140737488355328) := by have := HSZ.out; show _ ≤ _; rw [hL0]; simp; omega
  clear hL0
  clear hq1 hb1 hf1 hg2 hf2
  go_wp2
  go_loopw [0, 8, 9, 10] (fun b i k bd wr => ∃ (i' k' : Nat) (bad : Bool) (out : List UInt8), k' ≤ n ∧ i' ≤ k' ∧ i = .int .i64 i' ∧ k = .int .i64 k' ∧ bd = .bool bad ∧ Buf wr base G b (L0 ++ out) ∧ Fr base G w wr ∧ Hid (QInv p m k' i' out) ∧ Hid (CInv m k' bad)) (fun _ _ k _ _ => n - (intOf k).toNat)
  case atStart => exact ⟨0, 0, false, [], Nat.zero_le _, Nat.le_refl _, rfl, rfl, rfl, by rw [List.append_nil]; exact hb2, hf3, hs0, hs1⟩
  case round =>
    clear hb2 hf3 hs0 hs1
    obtain ⟨i, k, bad, out, hk, hik, rfl, rfl, rfl, hb, hf, hI, hC⟩ := hrel
    have hTr : Hid (Tabs wr E) := HT.out.fr hf hGB hGG
    have hMr : Hid (BytesAt wr g sO m) := HM.out.fr hf hg hgG
    have f0 : wr.cell? ⟨F, 0, none⟩ = some (.int .u64 P) := (World.cell?_of_block (a := ⟨F, 0, none⟩) (hf.block F hF hFG)).trans HF0.out
    have f1 : wr.cell? ⟨F, 1, none⟩ = some (.int .u64 V) := (World.cell?_of_block (a := ⟨F, 1, none⟩) (hf.block F hF hFG)).trans HF1.out
    by_cases hkn : k < n
    · have hkm : Hid (k < m.length) := by have := HN.out; show _ < _; omega
      have ck := hMr.out k hkm.out
      rw [natL_at] at ck
      have hnd : Hid (natL (m.drop k) 0 = natL m k) := natL_drop m k 0
      obtain ⟨c, hc⟩ : ∃ c, c = natL m k := ⟨_, rfl⟩
      have hc256 : c < 256 := by rw [hc]; exact natL_lt m k
      rw [← hc] at ck hnd
      have HC := Lib.hid hc
      clear hc
      by_cases hlo : c < 128
      · have hlo' : (c : Int) < 128 := by omega
        have hw1 : Hid (decW (m.drop k) = 1 ∧ rlL (m.drop k) = 1) := by
          have := decW_ascii (m.drop k) (by rw [hnd.out]; exact hlo)
          exact ⟨this.2, this.1⟩
        have hC' : Hid (CInv m (k + 1) bad) := hC.out.good hkm.out 1 hw1.out.1 (by rw [hw1.out.2]; omega)
        have ce := hTr.out.esc c hlo
        have het := escT_must c hlo
        rw [het] at ce
        clear het
        by_cases hmu : mustA c = true
        · have e1 : (if mustA c || htmlC c then 1 else 0) = 1 := by rw [hmu]; rfl
          rw [e1] at ce
          have n1 : ((c : Int) == 60) = false := by unfold mustA at hmu; simp at hmu ⊢; omega
          have n2 : ((c : Int) == 62) = false := by unfold mustA at hmu; simp at hmu ⊢; omega
          have n3 : ((c : Int) == 38) = false := by unfold mustA at hmu; simp at hmu ⊢; omega
          have hpc : p (m.drop k) = escA c := by rw [HP.out, qpiece_esc html js _ (by rw [hnd.out]; exact hlo) (by rw [hnd.out]; exact .inl hmu), hnd.out]
          have HI : Hid (QInv p m (k + 1) (k + 1) (out ++ (m.drop i).take (k - i) ++ escA c)) := hI.out.esc hkm.out 1 _ hw1.out.1 hpc
          have hlen : Hid (out.length + (k - i) ≤ 6 * n) := HBQ.out _ _ _ hI.out
          clear hpc
          clear e1 hmu
          go_wp2_with (at_builtin; refine wpList_append_buf rfl (.tmp 58) (.tmp 63) 23 rfl base G u0 (L0 ++ out) rfl hb _ _ rfl (src_partO hMr.out i k (cap - i) hik (Nat.le_of_lt hkm.out)) ?c1 ?c2 hG ?_)
          case c1 => have h1 := hsz0.out; have h2 := hlen.out; simp; omega
          case c2 => have h1 := hf.size; skip; omega
          intro v3 w3 hb3 hg3 hf3 _
          have hfa := hf.trans hf3
          have hea := escAscii c hlo base G v3 _ w3 hb3 (by have h1 := hsz0.out; have h2 := hlen.out; simp; omega) (Nat.le_trans hbase hfa.size) hG
          have HEA := Lib.hid hea
          clear hg3 hf3 hea hb3
          go_wp2_with fail
          refine HEA.out.mono ?_
          rintro e w4 ⟨v4, rfl, hb4, hf4⟩
          have hfb := hfa.trans hf4
          clear HEA hf4 hfa
          go_wp2
          go_roundw
          case rel => exact ⟨k + 1, k + 1, bad, _, by omega, Nat.le_refl _, by go_num, by go_num, rfl, by simpa only [List.append_assoc] using hb4, hfb, HI, hC'⟩
          case measure => simp [intOf]; omega
        · have hmu' : mustA c = false := by simpa using hmu
          by_cases hht : htmlC c = true
          · by_cases hhtml : html = true
            · have e1 : (if mustA c || htmlC c then 1 else 0) = 1 := by rw [hht]; simp
              rw [e1] at ce
              have hpc : p (m.drop k) = escA c := by rw [HP.out, qpiece_esc html js _ (by rw [hnd.out]; exact hlo) (by rw [hnd.out]; exact .inr ⟨hhtml, hht⟩), hnd.out]
              have HI : Hid (QInv p m (k + 1) (k + 1) (out ++ (m.drop i).take (k - i) ++ escA c)) := hI.out.esc hkm.out 1 _ hw1.out.1 hpc
              have hlen : Hid (out.length + (k - i) ≤ 6 * n) := HBQ.out _ _ _ hI.out
              clear hpc
              subst hhtml
              have hcs : c = 60 ∨ c = 62 ∨ c = 38 := by unfold htmlC at hht; simpa [or_assoc] using hht
              clear e1 hmu hmu' hht
              rcases hcs with hcs | hcs | hcs
              · have n1 : ((c : Int) == 60) = true := by simp; omega
                clear hcs
                go_wp2_with fail
                refine (G5.out _).mono ?_
                rintro e wg ⟨rfl, hbg⟩
                have HBG := Lib.hid hbg
                have hbw : Buf wg base G u0 (L0 ++ out) := hb.belowAll hbg
                have hMw : Hid (BytesAt wg g sO m) := hMr.out.below hbg (by have := hf.size; omega)
                have hfw : Fr base G w wg := hf.trans (Fr.of_belowAll hbg (Nat.le_trans hbase hf.size) hG)
                clear hbg
                go_wp2_with (at_builtin; refine wpList_append_buf rfl (.tmp 58) (.tmp 63) 23 rfl base G u0 (L0 ++ out) rfl hbw _ _ rfl (src_partO hMw.out i k (cap - i) hik (Nat.le_of_lt hkm.out)) ?c1 ?c2 hG ?_)
                case c1 => have h1 := hsz0.out; have h2 := hlen.out; simp; omega
                case c2 => have h1 := hf.size; have h2 := hfw.size; omega
                intro v3 w3 hb3 hg3 hf3 _
                have hfa := hfw.trans hf3
                have hea := escAscii c hlo base G v3 _ w3 hb3 (by have h1 := hsz0.out; have h2 := hlen.out; simp; omega) (Nat.le_trans hbase hfa.size) hG
                have HEA := Lib.hid hea
                clear hg3 hf3 hea hb3
                go_wp2_with fail
                refine HEA.out.mono ?_
                rintro e w4 ⟨v4, rfl, hb4, hf4⟩
                have hfb := hfa.trans hf4
                clear HEA hf4 hfa
                go_wp2
                go_roundw
                case rel => exact ⟨k + 1, k + 1, bad, _, by omega, Nat.le_refl _, by go_num, by go_num, rfl, by simpa only [List.append_assoc] using hb4, hfb, HI, hC'⟩
                case measure => simp [intOf]; omega
              · have n1 : ((c : Int) == 60) = false := by simp; omega
                have n2 : ((c : Int) == 62) = true := by simp; omega
                clear hcs
                go_wp2_with fail
                refine (G5.out _).mono ?_
                rintro e wg ⟨rfl, hbg⟩
                have HBG := Lib.hid hbg
                have hbw : Buf wg base G u0 (L0 ++ out) := hb.belowAll hbg
                have hMw : Hid (BytesAt wg g sO m) := hMr.out.below hbg (by have := hf.size; omega)
                have hfw : Fr base G w wg := hf.trans (Fr.of_belowAll hbg (Nat.le_trans hbase hf.size) hG)
                clear hbg
                go_wp2_with (at_builtin; refine wpList_append_buf rfl (.tmp 58) (.tmp 63) 23 rfl base G u0 (L0 ++ out) rfl hbw _ _ rfl (src_partO hMw.out i k (cap - i) hik (Nat.le_of_lt hkm.out)) ?c1 ?c2 hG ?_)
                case c1 => have h1 := hsz0.out; have h2 := hlen.out; simp; omega
                case c2 => have h1 := hf.size; have h2 := hfw.size; omega
                intro v3 w3 hb3 hg3 hf3 _
                have hfa := hfw.trans hf3
                have hea := escAscii c hlo base G v3 _ w3 hb3 (by have h1 := hsz0.out; have h2 := hlen.out; simp; omega) (Nat.le_trans hbase hfa.size) hG
                have HEA := Lib.hid hea
                clear hg3 hf3 hea hb3
                go_wp2_with fail
                refine HEA.out.mono ?_
                rintro e w4 ⟨v4, rfl, hb4, hf4⟩
                have hfb := hfa.trans hf4
                clear HEA hf4 hfa
                go_wp2
                go_roundw
                case rel => exact ⟨k + 1, k + 1, bad, _, by omega, Nat.le_refl _, by go_num, by go_num, rfl, by simpa only [List.append_assoc] using hb4, hfb, HI, hC'⟩
                case measure => simp [intOf]; omega
              · have n1 : ((c : Int) == 60) = false := by simp; omega
                have n2 : ((c : Int) == 62) = false := by simp; omega
                have n3 : ((c : Int) == 38) = true := by simp; omega
                clear hcs
                go_wp2_with fail
                refine (G5.out _).mono ?_
                rintro e wg ⟨rfl, hbg⟩
                have HBG := Lib.hid hbg
                have hbw : Buf wg base G u0 (L0 ++ out) := hb.belowAll hbg
                have hMw : Hid (BytesAt wg g sO m) := hMr.out.below hbg (by have := hf.size; omega)
                have hfw : Fr base G w wg := hf.trans (Fr.of_belowAll hbg (Nat.le_trans hbase hf.size) hG)
                clear hbg
                go_wp2_with (at_builtin; refine wpList_append_buf rfl (.tmp 58) (.tmp 63) 23 rfl base G u0 (L0 ++ out) rfl hbw _ _ rfl (src_partO hMw.out i k (cap - i) hik (Nat.le_of_lt hkm.out)) ?c1 ?c2 hG ?_)
                case c1 => have h1 := hsz0.out; have h2 := hlen.out; simp; omega
                case c2 => have h1 := hf.size; have h2 := hfw.size; omega
                intro v3 w3 hb3 hg3 hf3 _
                have hfa := hfw.trans hf3
                have hea := escAscii c hlo base G v3 _ w3 hb3 (by have h1 := hsz0.out; have h2 := hlen.out; simp; omega) (Nat.le_trans hbase hfa.size) hG
                have HEA := Lib.hid hea
                clear hg3 hf3 hea hb3
                go_wp2_with fail
                refine HEA.out.mono ?_
                rintro e w4 ⟨v4, rfl, hb4, hf4⟩
                have hfb := hfa.trans hf4
                clear HEA hf4 hfa
                go_wp2
                go_roundw
                case rel => exact ⟨k + 1, k + 1, bad, _, by omega, Nat.le_refl _, by go_num, by go_num, rfl, by simpa only [List.append_assoc] using hb4, hfb, HI, hC'⟩
                case measure => simp [intOf]; omega
            · have hhtml' : html = false := by simpa using hhtml
              have e1 : (if mustA c || htmlC c then 1 else 0) = 1 := by rw [hht]; simp
              rw [e1] at ce
              have hpc : p (m.drop k) = (m.drop k).take 1 := by rw [HP.out, qpiece_plain html js _ (by rw [hnd.out]; exact hlo) (by rw [hnd.out]; exact hmu') (.inl hhtml')]
              have HI : Hid (QInv p m (k + 1) i out) := hI.out.raw hkm.out 1 hw1.out.1 hpc
              subst hhtml'
              have hcs : c = 60 ∨ c = 62 ∨ c = 38 := by unfold htmlC at hht; simpa [or_assoc] using hht
              clear e1 hmu hmu' hht hpc hhtml
              rcases hcs with hcs | hcs | hcs
              · have n1 : ((c : Int) == 60) = true := by simp; omega
                clear hcs
                go_wp2_with fail
                refine (G5.out _).mono ?_
                rintro e wg ⟨rfl, hbg⟩
                have hbw : Buf wg base G u0 (L0 ++ out) := hb.belowAll hbg
                have hfw : Fr base G w wg := hf.trans (Fr.of_belowAll hbg (Nat.le_trans hbase hf.size) hG)
                clear hbg
                go_wp2
                go_roundw
                case rel => exact ⟨i, k + 1, bad, out, by omega, by omega, rfl, by go_num, rfl, hbw, hfw, HI, hC'⟩
                case measure => simp [intOf]; omega
              · have n1 : ((c : Int) == 60) = false := by simp; omega
                have n2 : ((c : Int) == 62) = true := by simp; omega
                clear hcs
                go_wp2_with fail
                refine (G5.out _).mono ?_
                rintro e wg ⟨rfl, hbg⟩
                have hbw : Buf wg base G u0 (L0 ++ out) := hb.belowAll hbg
                have hfw : Fr base G w wg := hf.trans (Fr.of_belowAll hbg (Nat.le_trans hbase hf.size) hG)
                clear hbg
                go_wp2
                go_roundw
                case rel => exact ⟨i, k + 1, bad, out, by omega, by omega, rfl, by go_num, rfl, hbw, hfw, HI, hC'⟩
                case measure => simp [intOf]; omega
              · have n1 : ((c : Int) == 60) = false := by simp; omega
                have n2 : ((c : Int) == 62) = false := by simp; omega
                have n3 : ((c : Int) == 38) = true := by simp; omega
                clear hcs
                go_wp2_with fail
                refine (G5.out _).mono ?_
                rintro e wg ⟨rfl, hbg⟩
                have hbw : Buf wg base G u0 (L0 ++ out) := hb.belowAll hbg
                have hfw : Fr base G w wg := hf.trans (Fr.of_belowAll hbg (Nat.le_trans hbase hf.size) hG)
                clear hbg
                go_wp2
                go_roundw
                case rel => exact ⟨i, k + 1, bad, out, by omega, by omega, rfl, by go_num, rfl, hbw, hfw, HI, hC'⟩
                case measure => simp [intOf]; omega
          · have hht' : htmlC c = false := by simpa using hht
            have e1 : (if mustA c || htmlC c then 1 else 0) = 0 := by rw [hmu', hht']; rfl
            rw [e1] at ce
            have hpc : p (m.drop k) = (m.drop k).take 1 := by rw [HP.out, qpiece_plain html js _ (by rw [hnd.out]; exact hlo) (by rw [hnd.out]; exact hmu') (.inr (by rw [hnd.out]; exact hht'))]
            have HI : Hid (QInv p m (k + 1) i out) := hI.out.raw hkm.out 1 hw1.out.1 hpc
            clear e1 hmu hmu' hht hht' hpc
            go_wp2
            go_roundw
            case rel => exact ⟨i, k + 1, bad, out, by omega, by omega, rfl, by go_num, rfl, hb, hf, HI, hC'⟩
            case measure => simp [intOf]; omega
      · have hlo' : ¬ (c : Int) < 128 := by omega
        have hbig : Hid (¬ natL (m.drop k) 0 < 128) := by show ¬ _; rw [hnd.out]; exact hlo
        have hpos := drop_pos hkm.out
        have hdr := decW_range (m.drop k) hpos
        rw [List.length_drop, ← HN.out] at hdr
        have hdl : (m.drop k).length = n - k := by rw [List.length_drop, ← HN.out]
        have hdec := decodeRune (m.drop k) g (sO + k) (cap - k) wr hTr.out.u8 (fun j hj => by
          have h1 := hMr.out (k + j) (by rw [List.length_drop] at hj; omega)
          rw [show sO + k + j = sO + (k + j) by omega, h1, natL_at, natL_at, natL_drop]) hpos
        rw [hdl] at hdec
        obtain ⟨d0, d1, d2, d3⟩ := dec_head (m.drop k) hpos
        obtain ⟨r, hr⟩ : ∃ r, r = (decN (m.drop k)).1 := ⟨_, rfl⟩
        obtain ⟨wd, hwd⟩ : ∃ x, x = decW (m.drop k) := ⟨_, rfl⟩
        rw [← hr, d2, ← hwd] at hdec
        rw [← hwd] at hdr
        have HWD : Hid (decW (m.drop k) = wd) := hwd.symm
        have HD := Lib.hid hdec
        clear hdec hdl hpos hwd
        by_cases hz : rlL (m.drop k) = 0
        · have hr65 : r = 65533 := by rw [hr, d0 hz]
          have hwd1 : wd = 1 := by rw [← HWD.out]; unfold decW; rw [if_pos hz]
          have hpc : p (m.drop k) = BR := by rw [HP.out, qpiece_bad html js _ hbig.out hz]
          have HI : Hid (QInv p m (k + 1) (k + 1) (out ++ (m.drop i).take (k - i) ++ BR)) := hI.out.esc hkm.out 1 _ (by rw [HWD.out, hwd1]) hpc
          have hC' : Hid (CInv m (k + 1) true) := hC.out.bad hkm.out hz
          have hlen : Hid (out.length + (k - i) + 6 ≤ 6 * n + 6) := by have := HBQ.out _ _ _ hI.out; show _ ≤ _; omega
          subst hr65 hwd1
          simp only [show ((65533 : Nat) : Int) = 65533 from rfl, show ((1 : Nat) : Int) = 1 from rfl] at HD
          clear d0 d1 d2 d3 hr hz hpc hdr HWD
          go_wp2_with fail
          refine HD.out.mono ?_
          rintro e wg ⟨rfl, hbg⟩
          have hbw : Buf wg base G u0 (L0 ++ out) := hb.belowAll hbg
          have hMw : Hid (BytesAt wg g sO m) := hMr.out.below hbg (by have := hf.size; omega)
          have hfw : Fr base G w wg := hf.trans (Fr.of_belowAll hbg (Nat.le_trans hbase hf.size) hG)
          clear hbg HD
          go_wp2_with fail
          refine (isInv 65533 1 true rfl _).mono ?_
          rintro e w' ⟨rfl, rfl⟩
          go_wp2_with (at_builtin; refine wpList_append_buf rfl (.tmp 93) (.tmp 99) 23 rfl base G u0 (L0 ++ out) rfl hbw _ _ rfl (src_partO hMw.out i k (cap - i) hik (Nat.le_of_lt hkm.out)) ?c1 ?c2 hG ?_)
          case c1 => have h1 := hsz0.out; have h2 := hlen.out; simp; omega
          case c2 => have h1 := hf.size; have h2 := hfw.size; omega
          intro v3 w3 hb3 hg3 hf3 _
          have hfa := hfw.trans hf3
          clear hg3 hf3
          go_wp2_with (at_builtin; refine wpList_append_buf rfl (.tmp 101) (.const (.string ⟨#[239, 191, 189]⟩)) 9 rfl base G v3 _ rfl hb3 _ BR rfl (Src.text ⟨#[239, 191, 189]⟩) ?c1 (Nat.le_trans hbase hfa.size) hG ?_)
          case c1 => have h1 := hsz0.out; have h2 := hlen.out; simp [BR]; omega
          intro v4 w4 hb4 hg4 hf4 _
          have hfb := hfa.trans hf4
          clear hg4 hf4 hfa hb3
          go_wp2
          go_roundw
          case rel => exact ⟨k + 1, k + 1, true, _, by omega, Nat.le_refl _, by go_num, by go_num, rfl, by simpa only [List.append_assoc] using hb4, hfb, HI, hC'⟩
          case measure => simp [intOf]; omega
        · obtain ⟨d4, d5, d6, d7⟩ := d1 hz
          have hc2 : 2 ≤ wd := by rw [← HWD.out]; exact d5 (by have := hbig.out; omega)
          have hC' : Hid (CInv m (k + wd) bad) := hC.out.good hkm.out wd HWD.out hz
          have hlen : Hid (out.length + (k - i) ≤ 6 * n) := HBQ.out _ _ _ hI.out
          have hwn : wd ≤ 4 ∧ k + wd ≤ n := by omega
          obtain ⟨hw4, hkw⟩ := hwn
          have iw : IntKind.i64.wrap ((k : Int) + wd - wd) = k := by rw [IntKind.wrap_i64]; omega
          have iw2 : (k : Int) + wd - wd = k := by omega
          have HIV : Hid (false = (decide ((r : Int) = 65533) && decide ((wd : Int) = 1))) := by show _ = _; rw [decide_eq_false (show ¬ ((wd : Int) = 1) by omega), Bool.and_false]
          by_cases hjs0 : jsN (m.drop k) = 0
          · have hpc : p (m.drop k) = (m.drop k).take wd := by rw [HP.out, qpiece_wide html js _ hbig.out hz (.inr hjs0), HWD.out]
            have HI : Hid (QInv p m (k + wd) i out) := hI.out.raw hkm.out wd HWD.out hpc
            have r1 : ((r : Int) != 8232) = true := by simp; omega
            have r2 : ((r : Int) != 8233) = true := by simp; omega
            have r3 : ((r : Int) == 8232) = false := by simp; omega
            have r4 : ((r : Int) == 8233) = false := by simp; omega
            have w1' : ((wd : Int) == 1) = false := by simp; omega
            by_cases h65 : r = 65533
            · have r0 : ((r : Int) != 65533) = false := by simp; omega
              have r5 : ((r : Int) == 65533) = true := by simp; omega
              clear d0 d1 d2 d3 d4 d5 d6 d7 hr hz hpc hjs0 h65
              go_wp2_with fail
              refine HD.out.mono ?_
              rintro e wg ⟨rfl, hbg⟩
              have hbw : Buf wg base G u0 (L0 ++ out) := hb.belowAll hbg
              have hfw : Fr base G w wg := hf.trans (Fr.of_belowAll hbg (Nat.le_trans hbase hf.size) hG)
              clear hbg HD
              go_wp2_with fail
              refine (isInv r wd false HIV.out _).mono ?_
              rintro e w' ⟨rfl, rfl⟩
              go_wp2
              go_roundw
              case rel => exact ⟨i, k + wd, bad, out, by omega, by omega, rfl, by go_num, rfl, hbw, hfw, HI, hC'⟩
              case measure => simp [intOf]; omega
            · have r0 : ((r : Int) != 65533) = true := by simp; omega
              clear d0 d1 d2 d3 d4 d5 d6 d7 hr hz hpc hjs0 h65
              go_wp2_with fail
              refine HD.out.mono ?_
              rintro e wg ⟨rfl, hbg⟩
              have hbw : Buf wg base G u0 (L0 ++ out) := hb.belowAll hbg
              have hfw : Fr base G w wg := hf.trans (Fr.of_belowAll hbg (Nat.le_trans hbase hf.size) hG)
              clear hbg HD
              go_wp2
              go_roundw
              case rel => exact ⟨i, k + wd, bad, out, by omega, by omega, rfl, by go_num, rfl, hbw, hfw, HI, hC'⟩
              case measure => simp [intOf]; omega
          · have hjr : (r : Nat) = jsN (m.drop k) ∧ (r = 8232 ∨ r = 8233) := by
              rcases jsN_or (m.drop k) with h | h | h
              · exact absurd h hjs0
              · exact ⟨by rw [h, hr]; exact d6.2 h, .inl (by rw [hr]; exact d6.2 h)⟩
              · exact ⟨by rw [h, hr]; exact d7.2 h, .inr (by rw [hr]; exact d7.2 h)⟩
            obtain ⟨hj1, hj2⟩ := hjr
            have r5 : ((r : Int) == 65533) = false := by simp; omega
            have r0 : ((r : Int) != 65533) = true := by simp; omega
            by_cases hjt : js = true
            · have hpc : p (m.drop k) = u4 r := by rw [HP.out, hjt, qpiece_js html _ hbig.out hz hjs0, hj1]
              have HI : Hid (QInv p m (k + wd) (k + wd) (out ++ (m.drop i).take (k - i) ++ u4 r)) := hI.out.esc hkm.out wd _ HWD.out hpc
              have HR : Hid (r = 8232 ∨ r = 8233) := hj2
              subst hjt
              clear d0 d1 d2 d3 d4 d5 d6 d7 hr hz hpc hjs0 hj1
              rcases hj2 with hr8 | hr8
              · have r1 : ((r : Int) != 8232) = false := by simp; omega
                have r3 : ((r : Int) == 8232) = true := by simp; omega
                clear hr8
                go_wp2_with fail
                refine HD.out.mono ?_
                rintro e wd0 ⟨rfl, hbg0⟩
                have hb0 : Buf wd0 base G u0 (L0 ++ out) := hb.belowAll hbg0
                have hM0 : Hid (BytesAt wd0 g sO m) := hMr.out.below hbg0 (by have := hf.size; omega)
                have hf0 : Fr base G w wd0 := hf.trans (Fr.of_belowAll hbg0 (Nat.le_trans hbase hf.size) hG)
                have k0 : wd0.cell? ⟨F, 0, none⟩ = some (.int .u64 P) := (World.cell?_of_block (a := ⟨F, 0, none⟩) (hf0.block F hF hFG)).trans HF0.out
                have k1 : wd0.cell? ⟨F, 1, none⟩ = some (.int .u64 V) := (World.cell?_of_block (a := ⟨F, 1, none⟩) (hf0.block F hF hFG)).trans HF1.out
                clear hbg0 HD f0 f1 ck
                go_wp2_with fail
                refine (isInv r wd false HIV.out _).mono ?_
                rintro e w' ⟨rfl, rfl⟩
                go_wp2_with fail
                refine (G10.out _).mono ?_
                rintro e wg ⟨rfl, hbg⟩
                have hbw : Buf wg base G u0 (L0 ++ out) := hb0.belowAll hbg
                have hMw : Hid (BytesAt wg g sO m) := hM0.out.below hbg (by have := hf0.size; omega)
                have hfw : Fr base G w wg := hf0.trans (Fr.of_belowAll hbg (Nat.le_trans hbase hf0.size) hG)
                clear hbg hb0 hM0
                go_wp2_with (at_builtin; refine wpList_append_buf rfl (.tmp 117) (.tmp 123) 23 rfl base G u0 (L0 ++ out) rfl hbw _ _ rfl (src_partO hMw.out i k (cap - i) hik (Nat.le_of_lt hkm.out)) ?c1 ?c2 hG ?_)
                case c1 => have h1 := hsz0.out; have h2 := hlen.out; simp; omega
                case c2 => have h1 := hf.size; have h2 := hfw.size; omega
                intro v3 w3 hb3 hg3 hf3 _
                have hfa := hfw.trans hf3
                have hea := escUni r HR.out base G v3 _ w3 hb3 (by have h1 := hsz0.out; have h2 := hlen.out; simp; omega) (Nat.le_trans hbase hfa.size) hG
                have HEA := Lib.hid hea
                clear hg3 hf3 hea hb3
                go_wp2_with fail
                refine HEA.out.mono ?_
                rintro e w4 ⟨v4, rfl, hb4, hf4⟩
                have hfb := hfa.trans hf4
                clear HEA hf4 hfa
                go_wp2
                go_roundw
                case rel => exact ⟨k + wd, k + wd, bad, _, by omega, Nat.le_refl _, by go_num, by go_num, rfl, by simpa only [List.append_assoc] using hb4, hfb, HI, hC'⟩
                case measure => simp [intOf]; omega
              · have r1 : ((r : Int) != 8232) = true := by simp; omega
                have r2 : ((r : Int) != 8233) = false := by simp; omega
                have r3 : ((r : Int) == 8232) = false := by simp; omega
                have r4 : ((r : Int) == 8233) = true := by simp; omega
                clear hr8
                go_wp2_with fail
                refine HD.out.mono ?_
                rintro e wd0 ⟨rfl, hbg0⟩
                have hb0 : Buf wd0 base G u0 (L0 ++ out) := hb.belowAll hbg0
                have hM0 : Hid (BytesAt wd0 g sO m) := hMr.out.below hbg0 (by have := hf.size; omega)
                have hf0 : Fr base G w wd0 := hf.trans (Fr.of_belowAll hbg0 (Nat.le_trans hbase hf.size) hG)
                have k0 : wd0.cell? ⟨F, 0, none⟩ = some (.int .u64 P) := (World.cell?_of_block (a := ⟨F, 0, none⟩) (hf0.block F hF hFG)).trans HF0.out
                have k1 : wd0.cell? ⟨F, 1, none⟩ = some (.int .u64 V) := (World.cell?_of_block (a := ⟨F, 1, none⟩) (hf0.block F hF hFG)).trans HF1.out
                clear hbg0 HD f0 f1 ck
                go_wp2_with fail
                refine (isInv r wd false HIV.out _).mono ?_
                rintro e w' ⟨rfl, rfl⟩
                go_wp2_with fail
                refine (G10.out _).mono ?_
                rintro e wg ⟨rfl, hbg⟩
                have hbw : Buf wg base G u0 (L0 ++ out) := hb0.belowAll hbg
                have hMw : Hid (BytesAt wg g sO m) := hM0.out.below hbg (by have := hf0.size; omega)
                have hfw : Fr base G w wg := hf0.trans (Fr.of_belowAll hbg (Nat.le_trans hbase hf0.size) hG)
                clear hbg hb0 hM0
                go_wp2_with (at_builtin; refine wpList_append_buf rfl (.tmp 117) (.tmp 123) 23 rfl base G u0 (L0 ++ out) rfl hbw _ _ rfl (src_partO hMw.out i k (cap - i) hik (Nat.le_of_lt hkm.out)) ?c1 ?c2 hG ?_)
                case c1 => have h1 := hsz0.out; have h2 := hlen.out; simp; omega
                case c2 => have h1 := hf.size; have h2 := hfw.size; omega
                intro v3 w3 hb3 hg3 hf3 _
                have hfa := hfw.trans hf3
                have hea := escUni r HR.out base G v3 _ w3 hb3 (by have h1 := hsz0.out; have h2 := hlen.out; simp; omega) (Nat.le_trans hbase hfa.size) hG
                have HEA := Lib.hid hea
                clear hg3 hf3 hea hb3
                go_wp2_with fail
                refine HEA.out.mono ?_
                rintro e w4 ⟨v4, rfl, hb4, hf4⟩
                have hfb := hfa.trans hf4
                clear HEA hf4 hfa
                go_wp2
                go_roundw
                case rel => exact ⟨k + wd, k + wd, bad, _, by omega, Nat.le_refl _, by go_num, by go_num, rfl, by simpa only [List.append_assoc] using hb4, hfb, HI, hC'⟩
                case measure => simp [intOf]; omega
            · have hjt' : js = false := by simpa using hjt
              have hpc : p (m.drop k) = (m.drop k).take wd := by rw [HP.out, qpiece_wide html js _ hbig.out hz (.inl hjt'), HWD.out]
              have HI : Hid (QInv p m (k + wd) i out) := hI.out.raw hkm.out wd HWD.out hpc
              subst hjt'
              clear d0 d1 d2 d3 d4 d5 d6 d7 hr hz hpc hjs0 hj1 hjt
              rcases hj2 with hr8 | hr8
              · have r1 : ((r : Int) != 8232) = false := by simp; omega
                have r3 : ((r : Int) == 8232) = true := by simp; omega
                clear hr8
                go_wp2_with fail
                refine HD.out.mono ?_
                rintro e wd0 ⟨rfl, hbg0⟩
                have hb0 : Buf wd0 base G u0 (L0 ++ out) := hb.belowAll hbg0
                have hf0 : Fr base G w wd0 := hf.trans (Fr.of_belowAll hbg0 (Nat.le_trans hbase hf.size) hG)
                have k0 : wd0.cell? ⟨F, 0, none⟩ = some (.int .u64 P) := (World.cell?_of_block (a := ⟨F, 0, none⟩) (hf0.block F hF hFG)).trans HF0.out
                have k1 : wd0.cell? ⟨F, 1, none⟩ = some (.int .u64 V) := (World.cell?_of_block (a := ⟨F, 1, none⟩) (hf0.block F hF hFG)).trans HF1.out
                clear hbg0 HD f0 f1 ck
                go_wp2_with fail
                refine (isInv r wd false HIV.out _).mono ?_
                rintro e w' ⟨rfl, rfl⟩
                go_wp2_with fail
                refine (G10.out _).mono ?_
                rintro e wg ⟨rfl, hbg⟩
                have hbw : Buf wg base G u0 (L0 ++ out) := hb0.belowAll hbg
                have hfw : Fr base G w wg := hf0.trans (Fr.of_belowAll hbg (Nat.le_trans hbase hf0.size) hG)
                clear hbg hb0
                go_wp2
                go_roundw
                case rel => exact ⟨i, k + wd, bad, out, by omega, by omega, rfl, by go_num, rfl, hbw, hfw, HI, hC'⟩
                case measure => simp [intOf]; omega
              · have r1 : ((r : Int) != 8232) = true := by simp; omega
                have r2 : ((r : Int) != 8233) = false := by simp; omega
                have r3 : ((r : Int) == 8232) = false := by simp; omega
                have r4 : ((r : Int) == 8233) = true := by simp; omega
                clear hr8
                go_wp2_with fail
                refine HD.out.mono ?_
                rintro e wd0 ⟨rfl, hbg0⟩
                have hb0 : Buf wd0 base G u0 (L0 ++ out) := hb.belowAll hbg0
                have hf0 : Fr base G w wd0 := hf.trans (Fr.of_belowAll hbg0 (Nat.le_trans hbase hf.size) hG)
                have k0 : wd0.cell? ⟨F, 0, none⟩ = some (.int .u64 P) := (World.cell?_of_block (a := ⟨F, 0, none⟩) (hf0.block F hF hFG)).trans HF0.out
                have k1 : wd0.cell? ⟨F, 1, none⟩ = some (.int .u64 V) := (World.cell?_of_block (a := ⟨F, 1, none⟩) (hf0.block F hF hFG)).trans HF1.out
                clear hbg0 HD f0 f1 ck
                go_wp2_with fail
                refine (isInv r wd false HIV.out _).mono ?_
                rintro e w' ⟨rfl, rfl⟩
                go_wp2_with fail
                refine (G10.out _).mono ?_
                rintro e wg ⟨rfl, hbg⟩
                have hbw : Buf wg base G u0 (L0 ++ out) := hb0.belowAll hbg
                have hfw : Fr base G w wg := hf0.trans (Fr.of_belowAll hbg (Nat.le_trans hbase hf0.size) hG)
                clear hbg hb0
                go_wp2
                go_roundw
                case rel => exact ⟨i, k + wd, bad, out, by omega, by omega, rfl, by go_num, rfl, hbw, hfw, HI, hC'⟩
                case measure => simp [intOf]; omega
    · have hkn' : k = n := by omega
      subst hkn'
      have hkl : k ≤ m.length := by rw [HN.out]; exact Nat.le_refl _
      have hfin := hI.out.fin HN.out
      have hcf := hC.out.fin HN.out
      have hlen : Hid (out.length + (k - i) ≤ 6 * k) := HBQ.out _ _ _ hI.out
      have hL : Hid (l ++ [34] ++ Q ++ [34] = L0 ++ out ++ (m.drop i).take (k - i) ++ [34]) := by
        show _ = _
        rw [HQ.out, hfin, HL0.out]; simp only [List.append_assoc]
      rw [← HCL.out] at hcf
      have hcf' : clean = !bad := hcf
      clear hfin hcf hkn hI hC
      by_cases hci : cap = i
      · have hks : k - i = 0 := by omega
        have hL' := hL.out
        rw [hks, List.take_zero, List.append_nil] at hL'
        have hL : Hid (l ++ [34] ++ Q ++ [34] = L0 ++ out ++ [34]) := hL'
        clear hL'
        cases bad
        · have HCF : Hid (errOf (!clean && !allow) E = .nilIface) := by show _ = _; rw [hcf']; rfl
          clear hcf'
          go_wp2_with (at_builtin; refine wpList_append_buf rfl (.tmp 129) (.tmp 133) 23 rfl base G u0 (L0 ++ out) rfl hb _ _ rfl (Src.slice g sO _ [] (fun j hj => absurd hj (Nat.not_lt_zero _))) ?c1 (Nat.le_trans hbase hf.size) hG ?_)
          case c1 => have h1 := hsz0.out; have h2 := hlen.out; simp; omega
          intro v3 w3 hb3 hg3 hf3 _

          have hfa := hf.trans hf3
          clear hg3 hf3 hb hf
          have hqn : Hid (BytesAt (w3.alloc (Obj.cells #[.int .u8 34] 5)) w3.heap.size 0 [34]) := bytes_new w3 [34] 5
          go_wp2_with (at_builtin; refine wpList_append_buf rfl (.tmp 135) (.tmp 136) 23 rfl base G v3 _ rfl (hb3.alloc _) _ [34] rfl (src_new rfl hqn.out) ?c1 ?c2 hG ?_)
          case c1 => have h1 := hsz0.out; have h2 := hlen.out; simp; omega
          case c2 => have h1 := hfa.size; simp; omega
          intro v4 w4 hb4 hg4 hf4 _
          have hfb := Fr.trans (hfa.alloc _ hbase hG) hf4
          have hb5 : Buf w4 base G v4 (l ++ [34] ++ Q ++ [34]) := by rw [hL.out]; simpa only [List.append_assoc] using hb4
          clear hqn hg4 hf4 hfa hb3 hb4
          go_wp2
          go_ret2
          exact ⟨v4, congrArg (fun x => Ending.returned (Value.tuple #[v4, x])) HCF.out.symm, hb5, hfb⟩
        · cases allow
          · have HCF : Hid (errOf (!clean && !false) E = .iface 137 (.pointer (some E))) := by show _ = _; rw [hcf']; rfl
            clear hcf'
            go_wp2_with (at_builtin; refine wpList_append_buf rfl (.tmp 129) (.tmp 133) 23 rfl base G u0 (L0 ++ out) rfl hb _ _ rfl (Src.slice g sO _ [] (fun j hj => absurd hj (Nat.not_lt_zero _))) ?c1 (Nat.le_trans hbase hf.size) hG ?_)
            case c1 => have h1 := hsz0.out; have h2 := hlen.out; simp; omega
            intro v3 w3 hb3 hg3 hf3 _

            have hfa := hf.trans hf3
            clear hg3 hf3 hb hf
            have hqn : Hid (BytesAt (w3.alloc (Obj.cells #[.int .u8 34] 5)) w3.heap.size 0 [34]) := bytes_new w3 [34] 5
            go_wp2_with (at_builtin; refine wpList_append_buf rfl (.tmp 135) (.tmp 136) 23 rfl base G v3 _ rfl (hb3.alloc _) _ [34] rfl (src_new rfl hqn.out) ?c1 ?c2 hG ?_)
            case c1 => have h1 := hsz0.out; have h2 := hlen.out; simp; omega
            case c2 => have h1 := hfa.size; simp; omega
            intro v4 w4 hb4 hg4 hf4 _
            have hfb := Fr.trans (hfa.alloc _ hbase hG) hf4
            have hb5 : Buf w4 base G v4 (l ++ [34] ++ Q ++ [34]) := by rw [hL.out]; simpa only [List.append_assoc] using hb4
            clear hqn hg4 hf4 hfa hb3 hb4
            have k0 : w4.cell? ⟨F, 0, none⟩ = some (.int .u64 P) := (World.cell?_of_block (a := ⟨F, 0, none⟩) (hfb.block F hF hFG)).trans HF0.out
            have k1 : w4.cell? ⟨F, 1, none⟩ = some (.int .u64 V) := (World.cell?_of_block (a := ⟨F, 1, none⟩) (hfb.block F hF hFG)).trans HF1.out
            clear f0 f1
            go_wp2_with fail
            refine (G4.out _).mono ?_
            rintro e wg ⟨rfl, hbg⟩
            have hbw := hb5.belowAll hbg
            have hfw : Fr base G w wg := hfb.trans (Fr.of_belowAll hbg (Nat.le_trans hbase hfb.size) hG)
            have hei := (HT.out.fr hfw hGB hGG).inv
            clear hbg hb5 hfb k0 k1
            go_wp2
            go_quiet (fail)
            go_wp2
            go_ret2
            exact ⟨v4, congrArg (fun x => Ending.returned (Value.tuple #[v4, x])) HCF.out.symm, hbw.drewN _, hfw.trans (Fr.of_belowAll ⟨rfl, rfl, rfl, Nat.le_refl _, fun _ _ => rfl⟩ (Nat.le_trans hbase hfw.size) hG)⟩
          · have HCF : Hid (errOf (!clean && !true) E = .nilIface) := by show _ = _; rw [hcf']; rfl
            clear hcf'
            go_wp2_with (at_builtin; refine wpList_append_buf rfl (.tmp 129) (.tmp 133) 23 rfl base G u0 (L0 ++ out) rfl hb _ _ rfl (Src.slice g sO _ [] (fun j hj => absurd hj (Nat.not_lt_zero _))) ?c1 (Nat.le_trans hbase hf.size) hG ?_)
            case c1 => have h1 := hsz0.out; have h2 := hlen.out; simp; omega
            intro v3 w3 hb3 hg3 hf3 _

            have hfa := hf.trans hf3
            clear hg3 hf3 hb hf
            have hqn : Hid (BytesAt (w3.alloc (Obj.cells #[.int .u8 34] 5)) w3.heap.size 0 [34]) := bytes_new w3 [34] 5
            go_wp2_with (at_builtin; refine wpList_append_buf rfl (.tmp 135) (.tmp 136) 23 rfl base G v3 _ rfl (hb3.alloc _) _ [34] rfl (src_new rfl hqn.out) ?c1 ?c2 hG ?_)
            case c1 => have h1 := hsz0.out; have h2 := hlen.out; simp; omega
            case c2 => have h1 := hfa.size; simp; omega
            intro v4 w4 hb4 hg4 hf4 _
            have hfb := Fr.trans (hfa.alloc _ hbase hG) hf4
            have hb5 : Buf w4 base G v4 (l ++ [34] ++ Q ++ [34]) := by rw [hL.out]; simpa only [List.append_assoc] using hb4
            clear hqn hg4 hf4 hfa hb3 hb4
            have k0 : w4.cell? ⟨F, 0, none⟩ = some (.int .u64 P) := (World.cell?_of_block (a := ⟨F, 0, none⟩) (hfb.block F hF hFG)).trans HF0.out
            have k1 : w4.cell? ⟨F, 1, none⟩ = some (.int .u64 V) := (World.cell?_of_block (a := ⟨F, 1, none⟩) (hfb.block F hF hFG)).trans HF1.out
            clear f0 f1
            go_wp2_with fail
            refine (G4.out _).mono ?_
            rintro e wg ⟨rfl, hbg⟩
            have hbw := hb5.belowAll hbg
            have hfw : Fr base G w wg := hfb.trans (Fr.of_belowAll hbg (Nat.le_trans hbase hfb.size) hG)
            have hei := (HT.out.fr hfw hGB hGG).inv
            clear hbg hb5 hfb k0 k1
            go_wp2
            go_ret2
            exact ⟨v4, congrArg (fun x => Ending.returned (Value.tuple #[v4, x])) HCF.out.symm, hbw, hfw⟩
      · have hcs' : i < cap := by omega
        cases bad
        · have HCF : Hid (errOf (!clean && !allow) E = .nilIface) := by show _ = _; rw [hcf']; rfl
          clear hcf'
          go_wp2_with (at_builtin; refine wpList_append_buf rfl (.tmp 129) (.tmp 133) 23 rfl base G u0 (L0 ++ out) rfl hb _ _ rfl (src_partO hMr.out i k (cap - i) hik hkl) ?c1 (Nat.le_trans hbase hf.size) hG ?_)
          case c1 => have h1 := hsz0.out; have h2 := hlen.out; simp; omega
          intro v3 w3 hb3 hg3 hf3 _
          have hfa := hf.trans hf3
          clear hg3 hf3 hb hf
          have hqn : Hid (BytesAt (w3.alloc (Obj.cells #[.int .u8 34] 5)) w3.heap.size 0 [34]) := bytes_new w3 [34] 5
          go_wp2_with (at_builtin; refine wpList_append_buf rfl (.tmp 135) (.tmp 136) 23 rfl base G v3 _ rfl (hb3.alloc _) _ [34] rfl (src_new rfl hqn.out) ?c1 ?c2 hG ?_)
          case c1 => have h1 := hsz0.out; have h2 := hlen.out; simp; omega
          case c2 => have h1 := hfa.size; simp; omega
          intro v4 w4 hb4 hg4 hf4 _
          have hfb := Fr.trans (hfa.alloc _ hbase hG) hf4
          have hb5 : Buf w4 base G v4 (l ++ [34] ++ Q ++ [34]) := by rw [hL.out]; simpa only [List.append_assoc] using hb4
          clear hqn hg4 hf4 hfa hb3 hb4
          go_wp2
          go_ret2
          exact ⟨v4, congrArg (fun x => Ending.returned (Value.tuple #[v4, x])) HCF.out.symm, hb5, hfb⟩
        · cases allow
          · have HCF : Hid (errOf (!clean && !false) E = .iface 137 (.pointer (some E))) := by show _ = _; rw [hcf']; rfl
            clear hcf'
            go_wp2_with (at_builtin; refine wpList_append_buf rfl (.tmp 129) (.tmp 133) 23 rfl base G u0 (L0 ++ out) rfl hb _ _ rfl (src_partO hMr.out i k (cap - i) hik hkl) ?c1 (Nat.le_trans hbase hf.size) hG ?_)
            case c1 => have h1 := hsz0.out; have h2 := hlen.out; simp; omega
            intro v3 w3 hb3 hg3 hf3 _
            have hfa := hf.trans hf3
            clear hg3 hf3 hb hf
            have hqn : Hid (BytesAt (w3.alloc (Obj.cells #[.int .u8 34] 5)) w3.heap.size 0 [34]) := bytes_new w3 [34] 5
            go_wp2_with (at_builtin; refine wpList_append_buf rfl (.tmp 135) (.tmp 136) 23 rfl base G v3 _ rfl (hb3.alloc _) _ [34] rfl (src_new rfl hqn.out) ?c1 ?c2 hG ?_)
            case c1 => have h1 := hsz0.out; have h2 := hlen.out; simp; omega
            case c2 => have h1 := hfa.size; simp; omega
            intro v4 w4 hb4 hg4 hf4 _
            have hfb := Fr.trans (hfa.alloc _ hbase hG) hf4
            have hb5 : Buf w4 base G v4 (l ++ [34] ++ Q ++ [34]) := by rw [hL.out]; simpa only [List.append_assoc] using hb4
            clear hqn hg4 hf4 hfa hb3 hb4
            have k0 : w4.cell? ⟨F, 0, none⟩ = some (.int .u64 P) := (World.cell?_of_block (a := ⟨F, 0, none⟩) (hfb.block F hF hFG)).trans HF0.out
            have k1 : w4.cell? ⟨F, 1, none⟩ = some (.int .u64 V) := (World.cell?_of_block (a := ⟨F, 1, none⟩) (hfb.block F hF hFG)).trans HF1.out
            clear f0 f1
            go_wp2_with fail
            refine (G4.out _).mono ?_
            rintro e wg ⟨rfl, hbg⟩
            have hbw := hb5.belowAll hbg
            have hfw : Fr base G w wg := hfb.trans (Fr.of_belowAll hbg (Nat.le_trans hbase hfb.size) hG)
            have hei := (HT.out.fr hfw hGB hGG).inv
            clear hbg hb5 hfb k0 k1
            go_wp2
            go_quiet (fail)
            go_wp2
            go_ret2
            exact ⟨v4, congrArg (fun x => Ending.returned (Value.tuple #[v4, x])) HCF.out.symm, hbw.drewN _, hfw.trans (Fr.of_belowAll ⟨rfl, rfl, rfl, Nat.le_refl _, fun _ _ => rfl⟩ (Nat.le_trans hbase hfw.size) hG)⟩
          · have HCF : Hid (errOf (!clean && !true) E = .nilIface) := by show _ = _; rw [hcf']; rfl
            clear hcf'
            go_wp2_with (at_builtin; refine wpList_append_buf rfl (.tmp 129) (.tmp 133) 23 rfl base G u0 (L0 ++ out) rfl hb _ _ rfl (src_partO hMr.out i k (cap - i) hik hkl) ?c1 (Nat.le_trans hbase hf.size) hG ?_)
            case c1 => have h1 := hsz0.out; have h2 := hlen.out; simp; omega
            intro v3 w3 hb3 hg3 hf3 _
            have hfa := hf.trans hf3
            clear hg3 hf3 hb hf
            have hqn : Hid (BytesAt (w3.alloc (Obj.cells #[.int .u8 34] 5)) w3.heap.size 0 [34]) := bytes_new w3 [34] 5
            go_wp2_with (at_builtin; refine wpList_append_buf rfl (.tmp 135) (.tmp 136) 23 rfl base G v3 _ rfl (hb3.alloc _) _ [34] rfl (src_new rfl hqn.out) ?c1 ?c2 hG ?_)
            case c1 => have h1 := hsz0.out; have h2 := hlen.out; simp; omega
            case c2 => have h1 := hfa.size; simp; omega
            intro v4 w4 hb4 hg4 hf4 _
            have hfb := Fr.trans (hfa.alloc _ hbase hG) hf4
            have hb5 : Buf w4 base G v4 (l ++ [34] ++ Q ++ [34]) := by rw [hL.out]; simpa only [List.append_assoc] using hb4
            clear hqn hg4 hf4 hfa hb3 hb4
            have k0 : w4.cell? ⟨F, 0, none⟩ = some (.int .u64 P) := (World.cell?_of_block (a := ⟨F, 0, none⟩) (hfb.block F hF hFG)).trans HF0.out
            have k1 : w4.cell? ⟨F, 1, none⟩ = some (.int .u64 V) := (World.cell?_of_block (a := ⟨F, 1, none⟩) (hfb.block F hF hFG)).trans HF1.out
            clear f0 f1
            go_wp2_with fail
            refine (G4.out _).mono ?_
            rintro e wg ⟨rfl, hbg⟩
            have hbw := hb5.belowAll hbg
            have hfw : Fr base G w wg := hfb.trans (Fr.of_belowAll hbg (Nat.le_trans hbase hfb.size) hG)
            have hei := (HT.out.fr hfw hGB hGG).inv
            clear hbg hb5 hfb k0 k1
            go_wp2
            go_ret2
            exact ⟨v4, congrArg (fun x => Ending.returned (Value.tuple #[v4, x])) HCF.out.symm, hbw, hfw⟩
set_option maxRecDepth 100000 in
set_option maxHeartbeats 8000000 in
theorem appendQuoteNil (base : Nat) (G : Option (Nat × Nat)) (v : Value) (l : List UInt8) (F : Nat) (_P _V : Int) (w : World)
    (hB : Buf w base G v l) (hsz : l.length + 8 ≤ 140737488355328) (hbase : base ≤ w.heap.size) (hG : ∀ g o, G = some (g, o) → g < base) :
    Calls Tryd.prog 47 #[v, .slice none 0 0, .pointer (some ⟨F, 0, none⟩)] w (QuotePost base G (l ++ [34] ++ [34]) .nilIface w) := by
  have hgrow := growBuf base G v l 2 w hB (by omega) hbase hG
  have HGR := Lib.hid hgrow
  have HSZ := Lib.hid hsz
  simp only [show ((2 : Nat) : Int) = 2 from rfl] at HGR
  obtain ⟨L2, hL2⟩ : ∃ L2, L2 = l ++ [34] ++ [34] := ⟨_, rfl⟩
  rw [← hL2]
  have HL2 := Lib.hid hL2
  clear hgrow hsz hB hL2
  go_enter Tryd.func47, Tryd.ntmps47
  go_wp2_with fail
  refine HGR.out.mono ?_
  rintro e w1 ⟨v1, rfl, hb1, hf1⟩
  clear HGR
  have hq1 : Hid (BytesAt (w1.alloc (Obj.cells #[.int .u8 34] 5)) w1.heap.size 0 [34]) := bytes_new w1 [34] 5
  go_wp2_with (at_builtin; refine wpList_append_buf rfl (.tmp 20) (.tmp 21) 23 rfl base G v1 l rfl (hb1.alloc _) _ [34] rfl (src_new rfl hq1.out) ?c1 ?c2 hG ?_)
  case c1 => have := HSZ.out; simp; omega
  case c2 => have := hf1.size; simp; omega
  intro v2 w2 hb2 hg2 hf2 _
  have hf3 := Fr.trans (hf1.alloc _ hbase hG) hf2
  obtain ⟨L0, hL0⟩ : ∃ L0, L0 = l ++ [34] := ⟨_, rfl⟩
  rw [← hL0] at hb2
  have HL0 := Lib.hid hL0
  have hsz0 : Hid (L0.length + 7 ≤ 140737488355328) := by have := HSZ.out; show _ ≤ _; rw [hL0]; simp; omega
  clear hL0
  clear hq1 hb1 hf1 hg2 hf2
  go_wp2
  refine wp_loop_rounds 1 ?_
  rw [rounds_succ]
  go_wp2_with (at_builtin; refine wpList_append_buf rfl (.tmp 129) (.tmp 133) 23 rfl base G v2 L0 rfl hb2 _ [] rfl (Src.none _) ?c1 (Nat.le_trans hbase hf3.size) hG ?_)
  case c1 => have h1 := hsz0.out; simp; omega
  intro v3 w3 hb3 hg3 hf4 _
  have hfa := hf3.trans hf4
  clear hg3 hf4 hb2 hf3
  have hqn : Hid (BytesAt (w3.alloc (Obj.cells #[.int .u8 34] 5)) w3.heap.size 0 [34]) := bytes_new w3 [34] 5
  go_wp2_with (at_builtin; refine wpList_append_buf rfl (.tmp 135) (.tmp 136) 23 rfl base G v3 _ rfl (hb3.alloc _) _ [34] rfl (src_new rfl hqn.out) ?c1 ?c2 hG ?_)
  case c1 => have h1 := hsz0.out; simp; omega
  case c2 => have h1 := hfa.size; simp; omega
  intro v4 w4 hb4 hg4 hf4 _
  have hfb := Fr.trans (hfa.alloc _ hbase hG) hf4
  have hb5 : Buf w4 base G v4 L2 := by rw [HL2.out, ← HL0.out]; exact hb4
  clear hqn hg4 hf4 hfa hb3 hb4
  go_wp2
  go_ret2
  exact ⟨v4, rfl, hb5, hfb⟩
end Go.Proofs.YtldcoaigecnpfaaDoor
