/- jsonwire.ReformatString where a string is kept but for its marks, walked. -/
import Derived.Test.YtldcoaigecnpfaaDoorGReformF
import Derived.Test.YtldcoaigecnpfaaDoorGKeptG
namespace Go.Proofs.YtldcoaigecnpfaaDoor
open Go.RowKit
theorem cut_dec (l : List UInt8) (n : Nat) (h0 : 0 < n) (hn : n < l.length) (h34 : atL l n = 34) : decW (l.take (n + 1)) = decW l ∧ jsN (l.take (n + 1)) = jsN l ∧ decW l ≤ n := by
  have hL : (l.take (n + 1)).length = n + 1 := by rw [List.length_take]; omega
  have h1 := decW_cut (l.take (n + 1)) n h0 (by rw [hL]; omega) (by rw [atL_take _ _ _ (by omega)]; exact h34)
  have h2 := decW_cut l n h0 hn h34
  rw [List.take_take, Nat.min_eq_left (by omega), h2] at h1
  have hr := (decW_range (l.take n) (by rw [List.length_take]; omega)).2.2
  rw [h2, List.length_take] at hr
  refine ⟨h1.symm, ?_, by omega⟩
  have e0 := natL_take l (n + 1) 0 (by omega)
  have e1 := natL_take l (n + 1) 1 (by omega)
  unfold jsN
  rw [e0, e1]
  rcases Nat.lt_or_ge 1 n with q | q
  · rw [natL_take l (n + 1) 2 (by omega)]
  · have hn1 : n = 1 := by omega
    rw [hn1, natL_at] at h34
    rw [if_neg (fun z => by have := z.2.1; omega), if_neg (fun z => by have := z.2.1; omega), if_neg (fun z => by have := z.2.1; omega), if_neg (fun z => by have := z.2.1; omega)]
theorem keptG_raw {mh mj : Bool} {l : List UInt8} (h1 : mh = false ∨ htmlC (natL l 0) = false) (h2 : mj = false ∨ jsN l = 0) : keptG mh mj l = l.take (decW l) := by
  unfold keptG
  have a : (mh && htmlC (natL l 0)) = false := by rcases h1 with h | h <;> rw [h] <;> simp
  have b : (mj && decide (¬ jsN l = 0)) = false := by rcases h2 with h | h <;> rw [h] <;> simp
  rw [a, b, if_neg (by decide), if_neg (by decide)]
theorem keptG_html {mj : Bool} {l : List UInt8} (h : htmlC (natL l 0) = true) : keptG true mj l = u4 (natL l 0) := by unfold keptG; rw [h]; rfl
theorem keptG_js {mh : Bool} {l : List UInt8} (h : ¬ jsN l = 0) : keptG mh true l = u4 (jsN l) := by
  have h226 := jsN_226 h
  have a : (mh && htmlC (natL l 0)) = false := by rw [h226]; simp [htmlC]
  unfold keptG
  rw [a, if_neg (by decide), if_pos (by simpa using h)]
theorem escA_html {c : Nat} (h : htmlC c = true) : escA c = u4 c := by
  have h3 : c = 60 ∨ c = 62 ∨ c = 38 := by unfold htmlC at h; simpa [or_assoc] using h
  unfold escA
  rw [if_neg (by omega), if_neg (by omega), if_neg (by omega), if_neg (by omega), if_neg (by omega), if_neg (by omega), if_neg (by omega)]
set_option maxRecDepth 100000 in
set_option maxHeartbeats 8000000 in
theorem reformMarks (base : Nat) (G : Option (Nat × Nat)) (v : Value) (l0 : List UInt8) (g cap F : Nat) (lo : Bool) (T : List UInt8) (P V : Int) (E E2 : Addr) (w : World)
    (hB : Buf w base G v l0) (hm : BytesAt w g 0 T) (hcap : T.length ≤ cap) (hnb : T.length ≤ 1000000) (hsz : l0.length ≤ 1000000) (hbase : base ≤ w.heap.size) (hG : ∀ g o, G = some (g, o) → g < base)
    (hg : g < base) (hT : Tabs2 w E E2) (hGB : GB ≤ base) (hF : F < base)
    (hF0 : w.cell? ⟨F, 0, none⟩ = some (.int .u64 P)) (hF1 : w.cell? ⟨F, 1, none⟩ = some (.int .u64 V)) (h4 : flagB V 4 = lo)
    (_hcm : cap ≤ maxLen) (hGG : ∀ g o, G = some (g, o) → GB ≤ g) (hFG : ∀ o, G ≠ some (F, o)) (hgG : ∀ o, G ≠ some (g, o))
    (e : Nat) (mh mj : Bool) (h512 : flagB V 512 = mh) (h1024 : flagB V 1024 = mj) (h1536 : flagB V 1536 = true) (h32 : flagB V 32 = true)
    (h0 : atL T 0 = 34) (he : e < T.length) (h34 : atL T e = 34) (h1 : 1 ≤ e) (hs : strN lo T 1 = e) :
    Calls Tryd.prog 33 #[v, .slice (some ⟨g, 0, none⟩) T.length cap, .pointer (some ⟨F, 0, none⟩)] w (RefPost base G (l0 ++ runF (keptG mh mj) 0 (T.take (e + 1))) (e + 1) w) := by
  have HB : Hid (∀ W, Below w.heap.size w W → Buf W base G v l0) := Lib.hid fun W h => hB.below h hB.block
  have HM : Hid (∀ W, Below w.heap.size w W → BytesAt W g 0 T) := Lib.hid fun W h => hm.below h (by omega)
  have HC : Hid (∀ W, Below w.heap.size w W → W.cell? ⟨F, 0, none⟩ = some (.int .u64 P) ∧ W.cell? ⟨F, 1, none⟩ = some (.int .u64 V)) := Lib.hid fun W h => ⟨(World.cell?_of_block (a := ⟨F, 0, none⟩) (h.block F (by omega))).trans hF0, (World.cell?_of_block (a := ⟨F, 1, none⟩) (h.block F (by omega))).trans hF1⟩
  have HTT : Hid (∀ W, Below w.heap.size w W → Tabs2 W E E2) := Lib.hid fun W h => hT.below h (by omega)
  have HG4 := Lib.hid (fun W : World => flB V 4 lo h4 P W)
  have HGH := Lib.hid hG
  have HGO := Lib.hid hbase
  obtain ⟨q0, q1⟩ := HC.out w (Below.refl _ _)
  have HCS : Hid (∀ W, Below w.heap.size w W → w.heap.size < W.heap.size → FV W w.heap.size true → Calls Tryd.prog 51 #[.pointer (some ⟨w.heap.size, 0, none⟩), .slice (some ⟨g, 0, none⟩) T.length cap, .bool (!lo)] W (ConsPost e w.heap.size (T.take e) W)) := Lib.hid fun W hW hlt hfv =>
    consume w.heap.size g cap e lo (!lo) T W rfl (HM.out W hW) hcap hnb (HTT.out W hW).tabs.u8 h0 he h34 h1 hs hfv (by omega) (by have := hW.size; omega) (fun w' hg' => (HTT.out w' (below_grown hW hg')).tabs.u8)
  have HG15 := Lib.hid (fun W : World => flB V 1536 true h1536 P W)
  have HG32 := Lib.hid (fun W : World => flB V 32 true h32 P W)
  have HG5 := Lib.hid (fun W : World => flB V 512 mh h512 P W)
  have HG10 := Lib.hid (fun W : World => flB V 1024 mj h1024 P W)
  obtain ⟨M, hM⟩ : ∃ M, M = T.take (e + 1) := ⟨_, rfl⟩
  have hMl : M.length = e + 1 := by rw [hM, List.length_take]; omega
  have HMM : Hid (∀ W, BytesAt W g 0 T → BytesAt W g 0 M) := Lib.hid fun W h j hj => by rw [hMl] at hj; rw [h j (by omega), hM, atL_take _ _ _ (by omega)]
  have HMC : Hid (∀ k, k ≤ e → natL (M.drop k) 0 = natL (T.drop k) 0 ∧ (k < e → decW (M.drop k) = decW (T.drop k) ∧ jsN (M.drop k) = jsN (T.drop k) ∧ k + decW (T.drop k) ≤ e)) := Lib.hid fun k hk => by
    have ed : M.drop k = (T.drop k).take (e - k + 1) := by rw [hM, List.drop_take, show e + 1 - k = e - k + 1 by omega]
    rw [ed]
    refine ⟨natL_take _ _ _ (by omega), fun hke => ?_⟩
    have := cut_dec (T.drop k) (e - k) (by omega) (by rw [List.length_drop]; omega) (by rw [atLd, show k + (e - k) = e by omega]; exact h34)
    exact ⟨this.1, this.2.1, by omega⟩
  have HE34 : Hid (natL (T.drop e) 0 = 34) := Lib.hid (by have : (natL (T.drop e) 0 : Int) = 34 := by rw [← natL_at, atLd]; exact h34
                                                          omega)
  have hlenQ := runF_length (keptG mh mj) 6 (fun l hl => keptG_length mh mj l hl) M.length M (Nat.le_refl _)
  have HBQ : Hid (∀ (k i : Nat) (out : List UInt8), QInv (keptG mh mj) M k i out → out.length + (k - i) ≤ 6 * (e + 1)) := Lib.hid fun _ _ _ q => by have h1 := q.bound; rw [hMl] at hlenQ; omega
  obtain ⟨Q, hQ⟩ : ∃ Q, Q = runF (keptG mh mj) 0 M := ⟨_, rfl⟩
  rw [← hM, ← hQ]
  have HQ := Lib.hid hQ
  have hs0 : Hid (QInv (keptG mh mj) M 0 0 []) := Lib.hid (QInv.start _ M)
  have HML := Lib.hid hMl
  have HSL := Lib.hid hsz
  have HTL : Hid (∃ n, n = T.length) := Lib.hid ⟨_, rfl⟩
  obtain ⟨n, hn⟩ := HTL.out
  have HN := Lib.hid hn
  rw [← hn] at hcap hnb he HCS ⊢
  clear hB hm hT hF0 hF1 h4 h1536 h32 h0 h34 hs hQ hM hMl hlenQ h512 h1024 hsz hn
  generalize T.take e = M0 at *
  go_enter Tryd.func33, Tryd.ntmps33
  obtain ⟨W1, hW1⟩ : ∃ W1, W1 = w.alloc (Obj.cells #[.int .u64 0] 96) := ⟨_, rfl⟩
  have B1 : Below w.heap.size w W1 := by rw [hW1]; exact (Below.refl _ _).alloc (Nat.le_refl _) _
  have S1 : W1.heap.size = w.heap.size + 1 := by rw [hW1]; simp
  have FV1 : FV W1 w.heap.size true := by rw [hW1]; exact ⟨⟨0, by omega, by simp [go_sem], fun _ => rfl⟩, by simp [go_sem]⟩
  obtain ⟨r0, r1⟩ := HC.out W1 B1
  rw [hW1] at r0 r1
  go_wp2_with fail
  rw [← hW1]
  refine (HG4.out _).mono ?_
  rintro e2 w2 ⟨rfl, b2⟩
  have B2 := B1.trans (b2.mono B1.size)
  have FV2 := FV1.below b2
  have HCN := Lib.hid (HCS.out w2 B2 (by have := b2.size; omega) FV2)
  clear r0 r1 hW1 HCS FV1 HG4
  go_wp2_with fail
  refine HCN.out.mono ?_
  rintro e3 w3 ⟨cn, rfl, f3, g3, _⟩
  have B3 := below_grown B2 g3
  obtain ⟨r0, r1⟩ := HC.out w3 B3
  have HB3 := Lib.hid B3
  clear FV2 B2 b2 B1 S1 g3 HCN B3 f3
  go_wp2_with fail
  refine (HG15.out _).mono ?_
  rintro e4 w4 ⟨rfl, b4⟩
  have HB4 := Lib.hid (HB3.out.trans (b4.mono HB3.out.size))
  clear b4 r0 r1 HG15 HB3
  obtain ⟨r0, r1⟩ := HC.out w4 HB4.out
  go_wp2_with fail
  refine (HG32.out _).mono ?_
  rintro e5 W0 ⟨rfl, b5⟩
  have HB5 := Lib.hid (HB4.out.trans (b5.mono HB4.out.size))
  clear b5 r0 r1 HG32 HB4
  have hbuf := HB.out W0 HB5.out
  have HBW : Hid (base ≤ W0.heap.size) := Lib.hid (Nat.le_trans HGO.out HB5.out.size)
  have HM0 := Lib.hid (HM.out W0 HB5.out)
  have HT0 := Lib.hid (HTT.out W0 HB5.out).tabs
  have HC0 := Lib.hid (HC.out W0 HB5.out)
  have HFX := Lib.hid (Fr.of_belowAll HB5.out HGO.out HGH.out)
  clear HB HM HTT HC HB5 HGO
  go_wp2
  go_loopw [0, 12, 13] (fun b i la wr => ∃ (i' k' : Nat) (out : List UInt8), k' ≤ e + 1 ∧ i' ≤ k' ∧ i' ≤ e ∧ i = .int .i64 k' ∧ la = .int .i64 i' ∧ Buf wr base G b (l0 ++ out) ∧ Fr base G W0 wr ∧ Hid (QInv (keptG mh mj) M k' i' out)) (fun _ i _ _ => e + 1 - (intOf i).toNat)
  case atStart => exact ⟨0, 0, [], Nat.zero_le _, Nat.le_refl _, Nat.zero_le _, rfl, rfl, by rw [List.append_nil]; exact hbuf, Fr.refl _ _ _, hs0⟩
  case round =>
    clear hbuf hs0
    obtain ⟨i, k, out, hk, hik, hie, rfl, rfl, hb, hf, hI⟩ := hrel
    have hTr : Hid (Tabs wr E) := Lib.hid (HT0.out.fr hf hGB hGG)
    have hTb : Hid (BytesAt wr g 0 T) := Lib.hid (HM0.out.fr hf hg hgG)
    have hMr : Hid (BytesAt wr g 0 M) := Lib.hid (HMM.out wr hTb.out)
    have f0 : wr.cell? ⟨F, 0, none⟩ = some (.int .u64 P) := (World.cell?_of_block (a := ⟨F, 0, none⟩) (hf.block F hF hFG)).trans HC0.out.1
    have f1 : wr.cell? ⟨F, 1, none⟩ = some (.int .u64 V) := (World.cell?_of_block (a := ⟨F, 1, none⟩) (hf.block F hF hFG)).trans HC0.out.2
    have hlen : Hid (out.length + (k - i) ≤ 6 * (e + 1)) := Lib.hid (HBQ.out _ _ _ hI.out)
    by_cases hke : k < e + 1
    · have hz1 : (k : Int) < (e : Int) + 1 := by omega
      have hkn : k < n := by omega
      have hkT : Hid (k < T.length) := Lib.hid (by rw [← HN.out]; exact hkn)
      have hkM0 : Hid (k < M.length) := Lib.hid (by rw [HML.out]; exact hke)
      have hkM : Hid (k ≤ M.length) := Lib.hid (by rw [HML.out]; omega)
      have ck := hTb.out k hkT.out
      rw [Nat.zero_add] at ck
      obtain ⟨mc0, mc1⟩ := HMC.out k (by omega)
      obtain ⟨c, hc⟩ : ∃ c : Nat, c = natL (T.drop k) 0 := ⟨_, rfl⟩
      have hat : atL T k = (c : Int) := by rw [hc, ← natL_at, atLd]; rfl
      have hc256 : c < 256 := by rw [hc]; exact natL_lt _ _
      rw [hat] at ck
      rw [← hc] at mc0
      have hck : k = e → c = 34 := fun q => by rw [hc, q]; exact HE34.out
      have HC1 := Lib.hid hc
      have HM1 := Lib.hid mc0
      have HCK := Lib.hid hck
      clear hat hc mc0 hck
      by_cases hlo : c < 128
      · have hlo' : (c : Int) < 128 := by omega
        have hw1 : Hid (decW (M.drop k) = 1) := Lib.hid (decW_ascii (M.drop k) (by rw [HM1.out]; exact hlo)).2
        have hj0 : Hid (jsN (M.drop k) = 0) := Lib.hid (by
          by_cases q : jsN (M.drop k) = 0
          · exact q
          · have := jsN_226 q; rw [HM1.out] at this; omega)
        clear mc1
        by_cases hht : htmlC c = true
        · have hcs : c = 60 ∨ c = 62 ∨ c = 38 := by unfold htmlC at hht; simpa [or_assoc] using hht
          have hke2 : k + 1 ≤ e := by
            rcases Nat.lt_or_ge k e with q | q
            · omega
            · have := HCK.out (by omega); omega
          by_cases hhtml : mh = true
          · have HI : Hid (QInv (keptG mh mj) M (k + 1) (k + 1) (out ++ (M.drop i).take (k - i) ++ escA c)) := Lib.hid (hI.out.esc hkM0.out 1 _ hw1.out (by rw [hhtml, keptG_html (by rw [HM1.out]; exact hht), HM1.out, escA_html hht]))
            subst hhtml
            clear hht hI hj0 hw1
            rcases hcs with hcs | hcs | hcs
            · have n1 : ((c : Int) == 60) = true := by simp; omega
              clear hcs
              go_wp2_with fail
              refine (HG5.out _).mono ?_
              rintro e wg ⟨rfl, hbg⟩
              have hbw : Buf wg base G u0 (l0 ++ out) := hb.belowAll hbg
              have hMw : Hid (BytesAt wg g 0 M) := hMr.out.below hbg (by have h1 := hf.size; have h2 := HBW.out; omega)
              have hfw : Fr base G W0 wg := hf.trans (Fr.of_belowAll hbg (Nat.le_trans HBW.out hf.size) hG)
              clear hbg hb hf hMr
              go_wp2_with (at_builtin; refine wpList_append_buf rfl (.tmp 85) (.tmp 89) 23 rfl base G u0 (l0 ++ out) rfl hbw _ _ rfl (src_part hMw.out i k (cap - i) hik hkM.out) ?c1 ?c2 hG ?_)
              case c1 => have h1 := HSL.out; have h2 := hlen.out; have h3 := hkM.out; rw [List.length_take, List.length_drop]; rw [List.length_append]; omega
              case c2 => have h1 := hfw.size; have h2 := HBW.out; omega
              intro v3 w3 hb3 hg3 hf3 _
              have hfa := hfw.trans hf3
              have hea := escAscii c hlo base G v3 _ w3 hb3 (by have h1 := HSL.out; have h2 := hlen.out; have h3 := hkM.out; rw [List.length_append, List.length_append, List.length_take, List.length_drop]; omega) (Nat.le_trans HBW.out hfa.size) hG
              have HEA := Lib.hid hea
              clear hg3 hf3 hea hb3 hMw hbw hfw
              go_wp2_with fail
              refine HEA.out.mono ?_
              rintro e w4 ⟨v4, rfl, hb4, hf4⟩
              have hfb := hfa.trans hf4
              clear HEA hf4 hfa
              go_wp2
              go_roundw
              case rel => exact ⟨k + 1, k + 1, _, by omega, by omega, by omega, by go_num, by go_num, by simpa only [List.append_assoc] using hb4, hfb, HI⟩
              case measure => simp [intOf]; omega
            · have n1 : ((c : Int) == 60) = false := by simp; omega
              have n2 : ((c : Int) == 62) = true := by simp; omega
              clear hcs
              go_wp2_with fail
              refine (HG5.out _).mono ?_
              rintro e wg ⟨rfl, hbg⟩
              have hbw : Buf wg base G u0 (l0 ++ out) := hb.belowAll hbg
              have hMw : Hid (BytesAt wg g 0 M) := hMr.out.below hbg (by have h1 := hf.size; have h2 := HBW.out; omega)
              have hfw : Fr base G W0 wg := hf.trans (Fr.of_belowAll hbg (Nat.le_trans HBW.out hf.size) hG)
              clear hbg hb hf hMr
              go_wp2_with (at_builtin; refine wpList_append_buf rfl (.tmp 85) (.tmp 89) 23 rfl base G u0 (l0 ++ out) rfl hbw _ _ rfl (src_part hMw.out i k (cap - i) hik hkM.out) ?c1 ?c2 hG ?_)
              case c1 => have h1 := HSL.out; have h2 := hlen.out; have h3 := hkM.out; rw [List.length_take, List.length_drop]; rw [List.length_append]; omega
              case c2 => have h1 := hfw.size; have h2 := HBW.out; omega
              intro v3 w3 hb3 hg3 hf3 _
              have hfa := hfw.trans hf3
              have hea := escAscii c hlo base G v3 _ w3 hb3 (by have h1 := HSL.out; have h2 := hlen.out; have h3 := hkM.out; rw [List.length_append, List.length_append, List.length_take, List.length_drop]; omega) (Nat.le_trans HBW.out hfa.size) hG
              have HEA := Lib.hid hea
              clear hg3 hf3 hea hb3 hMw hbw hfw
              go_wp2_with fail
              refine HEA.out.mono ?_
              rintro e w4 ⟨v4, rfl, hb4, hf4⟩
              have hfb := hfa.trans hf4
              clear HEA hf4 hfa
              go_wp2
              go_roundw
              case rel => exact ⟨k + 1, k + 1, _, by omega, by omega, by omega, by go_num, by go_num, by simpa only [List.append_assoc] using hb4, hfb, HI⟩
              case measure => simp [intOf]; omega
            · have n1 : ((c : Int) == 60) = false := by simp; omega
              have n2 : ((c : Int) == 62) = false := by simp; omega
              have n3 : ((c : Int) == 38) = true := by simp; omega
              clear hcs
              go_wp2_with fail
              refine (HG5.out _).mono ?_
              rintro e wg ⟨rfl, hbg⟩
              have hbw : Buf wg base G u0 (l0 ++ out) := hb.belowAll hbg
              have hMw : Hid (BytesAt wg g 0 M) := hMr.out.below hbg (by have h1 := hf.size; have h2 := HBW.out; omega)
              have hfw : Fr base G W0 wg := hf.trans (Fr.of_belowAll hbg (Nat.le_trans HBW.out hf.size) hG)
              clear hbg hb hf hMr
              go_wp2_with (at_builtin; refine wpList_append_buf rfl (.tmp 85) (.tmp 89) 23 rfl base G u0 (l0 ++ out) rfl hbw _ _ rfl (src_part hMw.out i k (cap - i) hik hkM.out) ?c1 ?c2 hG ?_)
              case c1 => have h1 := HSL.out; have h2 := hlen.out; have h3 := hkM.out; rw [List.length_take, List.length_drop]; rw [List.length_append]; omega
              case c2 => have h1 := hfw.size; have h2 := HBW.out; omega
              intro v3 w3 hb3 hg3 hf3 _
              have hfa := hfw.trans hf3
              have hea := escAscii c hlo base G v3 _ w3 hb3 (by have h1 := HSL.out; have h2 := hlen.out; have h3 := hkM.out; rw [List.length_append, List.length_append, List.length_take, List.length_drop]; omega) (Nat.le_trans HBW.out hfa.size) hG
              have HEA := Lib.hid hea
              clear hg3 hf3 hea hb3 hMw hbw hfw
              go_wp2_with fail
              refine HEA.out.mono ?_
              rintro e w4 ⟨v4, rfl, hb4, hf4⟩
              have hfb := hfa.trans hf4
              clear HEA hf4 hfa
              go_wp2
              go_roundw
              case rel => exact ⟨k + 1, k + 1, _, by omega, by omega, by omega, by go_num, by go_num, by simpa only [List.append_assoc] using hb4, hfb, HI⟩
              case measure => simp [intOf]; omega
          · have hhtml' : mh = false := by simpa using hhtml
            have HI : Hid (QInv (keptG mh mj) M (k + 1) i out) := Lib.hid (hI.out.raw hkM0.out 1 hw1.out (by rw [keptG_raw (Or.inl hhtml') (Or.inr hj0.out), hw1.out]))
            subst hhtml'
            clear hht hI hj0 hw1 hhtml
            rcases hcs with hcs | hcs | hcs
            · have n1 : ((c : Int) == 60) = true := by simp; omega
              clear hcs
              go_wp2_with fail
              refine (HG5.out _).mono ?_
              rintro e wg ⟨rfl, hbg⟩
              have hbw : Buf wg base G u0 (l0 ++ out) := hb.belowAll hbg
              have hMw : Hid (BytesAt wg g 0 M) := hMr.out.below hbg (by have h1 := hf.size; have h2 := HBW.out; omega)
              have hfw : Fr base G W0 wg := hf.trans (Fr.of_belowAll hbg (Nat.le_trans HBW.out hf.size) hG)
              clear hbg hb hf hMr
              go_wp2
              go_roundw
              case rel => exact ⟨i, k + 1, out, by omega, by omega, by omega, by go_num, by go_num, hbw, hfw, HI⟩
              case measure => simp [intOf]; omega
            · have n1 : ((c : Int) == 60) = false := by simp; omega
              have n2 : ((c : Int) == 62) = true := by simp; omega
              clear hcs
              go_wp2_with fail
              refine (HG5.out _).mono ?_
              rintro e wg ⟨rfl, hbg⟩
              have hbw : Buf wg base G u0 (l0 ++ out) := hb.belowAll hbg
              have hMw : Hid (BytesAt wg g 0 M) := hMr.out.below hbg (by have h1 := hf.size; have h2 := HBW.out; omega)
              have hfw : Fr base G W0 wg := hf.trans (Fr.of_belowAll hbg (Nat.le_trans HBW.out hf.size) hG)
              clear hbg hb hf hMr
              go_wp2
              go_roundw
              case rel => exact ⟨i, k + 1, out, by omega, by omega, by omega, by go_num, by go_num, hbw, hfw, HI⟩
              case measure => simp [intOf]; omega
            · have n1 : ((c : Int) == 60) = false := by simp; omega
              have n2 : ((c : Int) == 62) = false := by simp; omega
              have n3 : ((c : Int) == 38) = true := by simp; omega
              clear hcs
              go_wp2_with fail
              refine (HG5.out _).mono ?_
              rintro e wg ⟨rfl, hbg⟩
              have hbw : Buf wg base G u0 (l0 ++ out) := hb.belowAll hbg
              have hMw : Hid (BytesAt wg g 0 M) := hMr.out.below hbg (by have h1 := hf.size; have h2 := HBW.out; omega)
              have hfw : Fr base G W0 wg := hf.trans (Fr.of_belowAll hbg (Nat.le_trans HBW.out hf.size) hG)
              clear hbg hb hf hMr
              go_wp2
              go_roundw
              case rel => exact ⟨i, k + 1, out, by omega, by omega, by omega, by go_num, by go_num, hbw, hfw, HI⟩
              case measure => simp [intOf]; omega
        · have hht' : htmlC c = false := by simpa using hht
          have n1 : ((c : Int) == 60) = false := by unfold htmlC at hht'; simp at hht' ⊢; omega
          have n2 : ((c : Int) == 62) = false := by unfold htmlC at hht'; simp at hht' ⊢; omega
          have n3 : ((c : Int) == 38) = false := by unfold htmlC at hht'; simp at hht' ⊢; omega
          have HI : Hid (QInv (keptG mh mj) M (k + 1) i out) := Lib.hid (hI.out.raw hkM0.out 1 hw1.out (by rw [keptG_raw (Or.inr (by rw [HM1.out]; exact hht')) (Or.inr hj0.out), hw1.out]))
          clear hht hht' hI hj0 hw1
          go_wp2
          go_roundw
          case rel => exact ⟨i, k + 1, out, by omega, by omega, by omega, by go_num, by go_num, hb, hf, HI⟩
          case measure => simp [intOf]; omega
      · have hlo' : ¬ (c : Int) < 128 := by omega
        have hkE : k < e := by
          rcases Nat.lt_or_ge k e with q | q
          · exact q
          · have := HCK.out (by omega); omega
        obtain ⟨m1, m2, m3⟩ := mc1 hkE
        have hcx : ¬ cap = k := by omega
        have hTl : (T.drop k).length = n - k := by rw [List.length_drop, ← HN.out]
        have hTpos : 0 < (T.drop k).length := by omega
        have hdec := decodeRune (T.drop k) g k (cap - k) wr hTr.out.u8 (bytes_dropF hTb.out k) hTpos
        rw [hTl] at hdec
        obtain ⟨d0, d1, d2, d3⟩ := dec_head (T.drop k) hTpos
        have hhc : htmlC (natL (M.drop k) 0) = false := by rw [HM1.out]; unfold htmlC; simp; omega
        obtain ⟨wd, hwd⟩ : ∃ x, x = decW (T.drop k) := ⟨_, rfl⟩
        obtain ⟨r, hr⟩ : ∃ r, r = (decN (T.drop k)).1 := ⟨_, rfl⟩
        rw [← hr, d2, ← hwd] at hdec
        rw [← hwd] at m1 m3
        rw [← hr] at d1
        have hwr := (decW_range (T.drop k) hTpos).1
        rw [← hwd] at hwr
        have hr8 : (r = 8232 ↔ jsN (M.drop k) = 8232) ∧ (r = 8233 ↔ jsN (M.drop k) = 8233) := by
          rw [m2]
          by_cases hz : rlL (T.drop k) = 0
          · have e1 : r = 65533 := by rw [hr, d0 hz]
            have hj : jsN (T.drop k) = 0 := by
              by_cases q : jsN (T.drop k) = 0
              · exact q
              · exfalso
                have h3 : decW (T.drop k) = 3 := by
                  have q0 := jsN_226 q
                  unfold jsN at q
                  by_cases h8 : natL (T.drop k) 0 = 226 ∧ natL (T.drop k) 1 = 128 ∧ natL (T.drop k) 2 = 168
                  · exact js_three _ h8.1 h8.2.1 (.inl h8.2.2)
                  · rw [if_neg h8] at q
                    by_cases h9 : natL (T.drop k) 0 = 226 ∧ natL (T.drop k) 1 = 128 ∧ natL (T.drop k) 2 = 169
                    · exact js_three _ h9.1 h9.2.1 (.inr h9.2.2)
                    · rw [if_neg h9] at q; exact absurd rfl q
                unfold decW at h3
                rw [if_pos hz] at h3
                omega
            rw [hj, e1]
            constructor <;> constructor <;> intro q <;> omega
          · obtain ⟨_, _, d6, d7⟩ := d1 hz
            exact ⟨d6, d7⟩
        have HD := Lib.hid hdec
        have HR8 := Lib.hid hr8
        have HW1 := Lib.hid m1
        have HHC := Lib.hid hhc
        clear hdec hr8 d0 d1 d2 d3 m1 m2 mc1 hTl hTpos hwd hr hhc hTr hTb
        by_cases hj : jsN (M.drop k) = 0
        · have hra : ¬ r = 8232 := fun q => by have := HR8.out.1.1 q; omega
          have hrb : ¬ r = 8233 := fun q => by have := HR8.out.2.1 q; omega
          have q1 : ((r : Int) == 8232) = false := by simp; omega
          have q2 : ((r : Int) == 8233) = false := by simp; omega
          have HI : Hid (QInv (keptG mh mj) M (k + wd) i out) := Lib.hid (hI.out.raw hkM0.out wd HW1.out (by rw [keptG_raw (Or.inr HHC.out) (Or.inr hj), HW1.out]))
          clear hra hrb hj hI HR8
          go_wp2_with fail
          refine HD.out.mono ?_
          rintro e wg ⟨rfl, hbg⟩
          have hbw : Buf wg base G u0 (l0 ++ out) := hb.belowAll hbg
          have hfw : Fr base G W0 wg := hf.trans (Fr.of_belowAll hbg (Nat.le_trans HBW.out hf.size) hG)
          clear hbg hb hf HD
          go_wp2
          go_roundw
          case rel => exact ⟨i, k + wd, out, by omega, by omega, by omega, by go_num, by go_num, hbw, hfw, HI⟩
          case measure => simp [intOf]; omega
        · have hor : r = 8232 ∨ r = 8233 := by
            rcases jsN_or (M.drop k) with q | q | q
            · exact absurd q hj
            · exact .inl (HR8.out.1.2 q)
            · exact .inr (HR8.out.2.2 q)
          have hje : jsN (M.drop k) = r := by
            rcases hor with q | q
            · rw [q]; exact HR8.out.1.1 q
            · rw [q]; exact HR8.out.2.1 q
          by_cases hjs : mj = true
          · have HI : Hid (QInv (keptG mh mj) M (k + wd) (k + wd) (out ++ (M.drop i).take (k - i) ++ u4 r)) := Lib.hid (hI.out.esc hkM0.out wd _ HW1.out (by rw [hjs, keptG_js hj, hje]))
            subst hjs
            clear hj hje hI HR8
            rcases hor with rfl | rfl
            · simp only [show ((8232 : Nat) : Int) = 8232 from rfl] at HD
              go_wp2_with fail
              refine HD.out.mono ?_
              rintro e wh ⟨rfl, hbh⟩
              have hb2 : Buf wh base G u0 (l0 ++ out) := hb.belowAll hbh
              have hM2 : Hid (BytesAt wh g 0 M) := Lib.hid (hMr.out.below hbh (by have h1 := hf.size; have h2 := HBW.out; omega))
              have hf2 : Fr base G W0 wh := hf.trans (Fr.of_belowAll hbh (Nat.le_trans HBW.out hf.size) hG)
              have g0 : wh.cell? ⟨F, 0, none⟩ = some (.int .u64 P) := (World.cell?_of_block (a := ⟨F, 0, none⟩) (hf2.block F hF hFG)).trans HC0.out.1
              have g1 : wh.cell? ⟨F, 1, none⟩ = some (.int .u64 V) := (World.cell?_of_block (a := ⟨F, 1, none⟩) (hf2.block F hF hFG)).trans HC0.out.2
              clear hbh hb hf hMr HD f0 f1
              have hb := hb2
              have hf := hf2
              have hMr := hM2
              clear hb2 hf2 hM2
              go_wp2_with fail
              refine (HG10.out _).mono ?_
              rintro e wg ⟨rfl, hbg⟩
              have hbw : Buf wg base G u0 (l0 ++ out) := hb.belowAll hbg
              have hMw : Hid (BytesAt wg g 0 M) := hMr.out.below hbg (by have h1 := hf.size; have h2 := HBW.out; omega)
              have hfw : Fr base G W0 wg := hf.trans (Fr.of_belowAll hbg (Nat.le_trans HBW.out hf.size) hG)
              clear hbg hb hf hMr
              go_wp2_with (at_builtin; refine wpList_append_buf rfl (.tmp 117) (.tmp 121) 23 rfl base G u0 (l0 ++ out) rfl hbw _ _ rfl (src_part hMw.out i k (cap - i) hik hkM.out) ?c1 ?c2 hG ?_)
              case c1 => have h1 := HSL.out; have h2 := hlen.out; have h3 := hkM.out; rw [List.length_take, List.length_drop]; rw [List.length_append]; omega
              case c2 => have h1 := hfw.size; have h2 := HBW.out; omega
              intro v3 w3 hb3 hg3 hf3 _
              have hfa := hfw.trans hf3
              have hea := escUni 8232 (by decide) base G v3 _ w3 hb3 (by have h1 := HSL.out; have h2 := hlen.out; have h3 := hkM.out; rw [List.length_append, List.length_append, List.length_take, List.length_drop]; omega) (Nat.le_trans HBW.out hfa.size) hG
              have HEA := Lib.hid hea
              clear hg3 hf3 hea hb3 hMw hbw hfw
              go_wp2_with fail
              refine HEA.out.mono ?_
              rintro e w4 ⟨v4, rfl, hb4, hf4⟩
              have hfb := hfa.trans hf4
              clear HEA hf4 hfa
              go_wp2
              go_roundw
              case rel => exact ⟨k + wd, k + wd, _, by omega, by omega, by omega, by go_num, by go_num, by simpa only [List.append_assoc] using hb4, hfb, HI⟩
              case measure => simp [intOf]; omega
            · simp only [show ((8233 : Nat) : Int) = 8233 from rfl] at HD
              go_wp2_with fail
              refine HD.out.mono ?_
              rintro e wh ⟨rfl, hbh⟩
              have hb2 : Buf wh base G u0 (l0 ++ out) := hb.belowAll hbh
              have hM2 : Hid (BytesAt wh g 0 M) := Lib.hid (hMr.out.below hbh (by have h1 := hf.size; have h2 := HBW.out; omega))
              have hf2 : Fr base G W0 wh := hf.trans (Fr.of_belowAll hbh (Nat.le_trans HBW.out hf.size) hG)
              have g0 : wh.cell? ⟨F, 0, none⟩ = some (.int .u64 P) := (World.cell?_of_block (a := ⟨F, 0, none⟩) (hf2.block F hF hFG)).trans HC0.out.1
              have g1 : wh.cell? ⟨F, 1, none⟩ = some (.int .u64 V) := (World.cell?_of_block (a := ⟨F, 1, none⟩) (hf2.block F hF hFG)).trans HC0.out.2
              clear hbh hb hf hMr HD f0 f1
              have hb := hb2
              have hf := hf2
              have hMr := hM2
              clear hb2 hf2 hM2
              go_wp2_with fail
              refine (HG10.out _).mono ?_
              rintro e wg ⟨rfl, hbg⟩
              have hbw : Buf wg base G u0 (l0 ++ out) := hb.belowAll hbg
              have hMw : Hid (BytesAt wg g 0 M) := hMr.out.below hbg (by have h1 := hf.size; have h2 := HBW.out; omega)
              have hfw : Fr base G W0 wg := hf.trans (Fr.of_belowAll hbg (Nat.le_trans HBW.out hf.size) hG)
              clear hbg hb hf hMr
              go_wp2_with (at_builtin; refine wpList_append_buf rfl (.tmp 117) (.tmp 121) 23 rfl base G u0 (l0 ++ out) rfl hbw _ _ rfl (src_part hMw.out i k (cap - i) hik hkM.out) ?c1 ?c2 hG ?_)
              case c1 => have h1 := HSL.out; have h2 := hlen.out; have h3 := hkM.out; rw [List.length_take, List.length_drop]; rw [List.length_append]; omega
              case c2 => have h1 := hfw.size; have h2 := HBW.out; omega
              intro v3 w3 hb3 hg3 hf3 _
              have hfa := hfw.trans hf3
              have hea := escUni 8233 (by decide) base G v3 _ w3 hb3 (by have h1 := HSL.out; have h2 := hlen.out; have h3 := hkM.out; rw [List.length_append, List.length_append, List.length_take, List.length_drop]; omega) (Nat.le_trans HBW.out hfa.size) hG
              have HEA := Lib.hid hea
              clear hg3 hf3 hea hb3 hMw hbw hfw
              go_wp2_with fail
              refine HEA.out.mono ?_
              rintro e w4 ⟨v4, rfl, hb4, hf4⟩
              have hfb := hfa.trans hf4
              clear HEA hf4 hfa
              go_wp2
              go_roundw
              case rel => exact ⟨k + wd, k + wd, _, by omega, by omega, by omega, by go_num, by go_num, by simpa only [List.append_assoc] using hb4, hfb, HI⟩
              case measure => simp [intOf]; omega
          · have hjs' : mj = false := by simpa using hjs
            have HI : Hid (QInv (keptG mh mj) M (k + wd) i out) := Lib.hid (hI.out.raw hkM0.out wd HW1.out (by rw [keptG_raw (Or.inr HHC.out) (Or.inl hjs'), HW1.out]))
            subst hjs'
            clear hj hje hI HR8 hjs
            rcases hor with rfl | rfl
            · simp only [show ((8232 : Nat) : Int) = 8232 from rfl] at HD
              go_wp2_with fail
              refine HD.out.mono ?_
              rintro e wh ⟨rfl, hbh⟩
              have hb2 : Buf wh base G u0 (l0 ++ out) := hb.belowAll hbh
              have hM2 : Hid (BytesAt wh g 0 M) := Lib.hid (hMr.out.below hbh (by have h1 := hf.size; have h2 := HBW.out; omega))
              have hf2 : Fr base G W0 wh := hf.trans (Fr.of_belowAll hbh (Nat.le_trans HBW.out hf.size) hG)
              have g0 : wh.cell? ⟨F, 0, none⟩ = some (.int .u64 P) := (World.cell?_of_block (a := ⟨F, 0, none⟩) (hf2.block F hF hFG)).trans HC0.out.1
              have g1 : wh.cell? ⟨F, 1, none⟩ = some (.int .u64 V) := (World.cell?_of_block (a := ⟨F, 1, none⟩) (hf2.block F hF hFG)).trans HC0.out.2
              clear hbh hb hf hMr HD f0 f1
              have hb := hb2
              have hf := hf2
              have hMr := hM2
              clear hb2 hf2 hM2
              go_wp2_with fail
              refine (HG10.out _).mono ?_
              rintro e wg ⟨rfl, hbg⟩
              have hbw : Buf wg base G u0 (l0 ++ out) := hb.belowAll hbg
              have hMw : Hid (BytesAt wg g 0 M) := hMr.out.below hbg (by have h1 := hf.size; have h2 := HBW.out; omega)
              have hfw : Fr base G W0 wg := hf.trans (Fr.of_belowAll hbg (Nat.le_trans HBW.out hf.size) hG)
              clear hbg hb hf hMr
              go_wp2
              go_roundw
              case rel => exact ⟨i, k + wd, out, by omega, by omega, by omega, by go_num, by go_num, hbw, hfw, HI⟩
              case measure => simp [intOf]; omega
            · simp only [show ((8233 : Nat) : Int) = 8233 from rfl] at HD
              go_wp2_with fail
              refine HD.out.mono ?_
              rintro e wh ⟨rfl, hbh⟩
              have hb2 : Buf wh base G u0 (l0 ++ out) := hb.belowAll hbh
              have hM2 : Hid (BytesAt wh g 0 M) := Lib.hid (hMr.out.below hbh (by have h1 := hf.size; have h2 := HBW.out; omega))
              have hf2 : Fr base G W0 wh := hf.trans (Fr.of_belowAll hbh (Nat.le_trans HBW.out hf.size) hG)
              have g0 : wh.cell? ⟨F, 0, none⟩ = some (.int .u64 P) := (World.cell?_of_block (a := ⟨F, 0, none⟩) (hf2.block F hF hFG)).trans HC0.out.1
              have g1 : wh.cell? ⟨F, 1, none⟩ = some (.int .u64 V) := (World.cell?_of_block (a := ⟨F, 1, none⟩) (hf2.block F hF hFG)).trans HC0.out.2
              clear hbh hb hf hMr HD f0 f1
              have hb := hb2
              have hf := hf2
              have hMr := hM2
              clear hb2 hf2 hM2
              go_wp2_with fail
              refine (HG10.out _).mono ?_
              rintro e wg ⟨rfl, hbg⟩
              have hbw : Buf wg base G u0 (l0 ++ out) := hb.belowAll hbg
              have hMw : Hid (BytesAt wg g 0 M) := hMr.out.below hbg (by have h1 := hf.size; have h2 := HBW.out; omega)
              have hfw : Fr base G W0 wg := hf.trans (Fr.of_belowAll hbg (Nat.le_trans HBW.out hf.size) hG)
              clear hbg hb hf hMr
              go_wp2
              go_roundw
              case rel => exact ⟨i, k + wd, out, by omega, by omega, by omega, by go_num, by go_num, hbw, hfw, HI⟩
              case measure => simp [intOf]; omega
    · obtain rfl : k = e + 1 := by omega
      have hfin := hI.out.fin HML.out.symm
      rw [← HQ.out] at hfin
      have HL : Hid (l0 ++ Q = l0 ++ (out ++ (M.drop i).take (e + 1 - i))) := Lib.hid (by rw [hfin])
      have hz2 : ¬ ((e + 1 : Nat) : Int) < (e : Int) + 1 := by omega
      have hbw := hb
      have hfw := hf
      have HBX : Hid (base ≤ wr.heap.size) := Lib.hid (Nat.le_trans HBW.out hf.size)
      have hq1 : (e : Int) + 1 ≤ (n : Int) := by omega
      have hq2 : ((e : Int) + 1).toNat = e + 1 := by omega
      have hq4 : (i : Int) ≤ (e : Int) + 1 := by omega
      have hci : ¬ cap = i := by omega
      have hkM : Hid (e + 1 ≤ M.length) := Lib.hid (by rw [HML.out]; omega)
      clear hfin hI hTr hTb hke f0 f1 hb hf
      go_wp2_with (at_builtin; refine wpList_append_buf rfl (.tmp 132) (.tmp 136) 23 rfl base G u0 (l0 ++ out) rfl hbw _ _ rfl (src_part hMr.out i (e + 1) (cap - i) hik hkM.out) ?c1 HBX.out hG ?_)
      case c1 => have h1 := HSL.out; have h2 := hlen.out; have h3 := hkM.out; first | omega | (simp; omega)
      intro v3 w3 hb3 hg3 hf3 _
      rw [← HL.out] at hb3
      have HB3 := Lib.hid hb3
      have HF3 := Lib.hid (HFX.out.trans (hfw.trans hf3))
      clear hg3 hf3 hb3 hbw hfw
      go_wp2
      go_ret3
      exact ⟨v3, rfl, HB3.out, HF3.out⟩
end Go.Proofs.YtldcoaigecnpfaaDoor
