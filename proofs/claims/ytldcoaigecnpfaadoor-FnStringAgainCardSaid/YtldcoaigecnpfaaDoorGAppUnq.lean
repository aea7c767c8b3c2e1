/- jsonwire.AppendUnquote over the whole text of a string that the grammar takes, walked. -/
import Derived.Test.YtldcoaigecnpfaaDoorGAppUnqC
import Derived.Deep.DeepCutAuto
import Derived.Deep.CutBlock
namespace Go.Proofs.YtldcoaigecnpfaaDoor
open Go.RowKit
def UnqPost (base : Nat) (G : Option (Nat × Nat)) (L : List UInt8) (neat : Bool) (w : World) (e : Ending) (w' : World) : Prop := ∃ v' ev, e = .returned (.tuple #[v', ev]) ∧ Buf w' base G v' L ∧ Fr base G w w' ∧ Hid (neat = true → ev = .nilIface)
set_option maxRecDepth 100000 in
set_option maxHeartbeats 16000000 in
theorem appUnq (base : Nat) (G : Option (Nat × Nat)) (v : Value) (l : List UInt8) (g cap : Nat) (m : List UInt8) (E : Addr) (w : World)
    (hB : Buf w base G v l) (hm : BytesAt w g 0 (qT m)) (hcap : m.length + 2 ≤ cap) (_hcm : cap ≤ maxLen) (hsz : l.length + 8 * m.length + 16 ≤ 100000000000) (hbase : base ≤ w.heap.size) (hG : ∀ g o, G = some (g, o) → g < base)
    (hg : g < base) (hgG : ∀ o, G ≠ some (g, o)) (hT : Tabs w E) (hGB : GB ≤ base) (hGG : ∀ g o, G = some (g, o) → GB ≤ g) (hok : okL m = true) :
    Calls Tryd.prog 48 #[v, .slice (some ⟨g, 0, none⟩) (m.length + 2) cap] w (UnqPost base G (l ++ dcL m) (neatL m) w) := by
  have hst : Hid (UInv m 0 0 [] false) := Lib.hid (UInv.start hok)
  obtain ⟨Q, hQ⟩ : ∃ Q, Q = dcL m := ⟨_, rfl⟩
  obtain ⟨nt, hnt⟩ : ∃ x, x = neatL m := ⟨_, rfl⟩
  have hFIN : Hid (∀ i out bad, UInv m m.length i out bad → Q = out ++ (m.drop i).take (m.length - i) ∧ (nt = true → bad = false)) := Lib.hid fun i out bad h => by rw [hQ, hnt]; exact h.fin
  rw [← hQ, ← hnt]
  obtain ⟨n, hn⟩ : ∃ n, n = m.length := ⟨_, rfl⟩
  have hgrow := growBuf base G v l (n + 2) w hB (by omega) hbase hG
  rw [← hn] at hcap hsz ⊢
  have hc0 := hm 0 (by rw [qT_length]; omega)
  rw [Nat.add_zero] at hc0
  have hc0' : w.cell? ⟨g, 0, none⟩ = some (.int .u8 34) := hc0
  have HGR := Lib.hid hgrow
  have HN := Lib.hid hn
  have HT := Lib.hid hT
  have HM := Lib.hid hm
  have HC0 := Lib.hid hc0'
  have HGh := Lib.hid hG
  have hnb : n ≤ 100000000000 := by omega
  have hlb : l.length ≤ 100000000000 := by omega
  have hcs : 0 < cap := by omega
  have hz0 : ((n : Int) + 2 == 0) = false := by simp; omega
  clear hgrow hn hT hm hc0 hc0' hB hQ hnt hok
  go_enter Tryd.func48, Tryd.ntmps48
  go_wp2_with fail
  have hgr' := HGR.out
  rw [show ((n + 2 : Nat) : Int) = (n : Int) + 2 by omega] at hgr'
  refine hgr'.mono ?_
  rintro e w1 ⟨v1, rfl, hb1, hf1⟩
  have c0 : w1.cell? ⟨g, 0, none⟩ = some (.int .u8 34) := (World.cell?_of_block (a := ⟨g, 0, none⟩) (hf1.block g hg hgG)).trans HC0.out
  clear HGR HC0 hgr'
  go_wp2
  go_loopw [0, 5, 6, 7] (fun b ev i y wr => ∃ (i' k' : Nat) (bad : Bool) (out : List UInt8), k' ≤ n ∧ i' ≤ k' ∧ i = .int .i64 ((i' : Int) + 1) ∧ y = .int .i64 ((k' : Int) + 1) ∧ Hid (bad = false → ev = .nilIface) ∧ Buf wr base G b (l ++ out) ∧ Fr base G w wr ∧ Hid (UInv m k' i' out bad)) (fun _ _ _ y _ => n + 2 - (intOf y).toNat)
  case atStart => exact ⟨0, 0, false, [], Nat.zero_le _, Nat.le_refl _, rfl, rfl, Lib.hid fun _ => rfl, by rw [List.append_nil]; exact hb1, hf1, hst⟩
  case round =>
    clear hb1 hf1 c0 hst
    obtain ⟨i, k0, bad, out, hk0, hik0, rfl, rfl, hev, hb, hf, hI0⟩ := hrel
    have hTr : Hid (Tabs wr E) := HT.out.fr hf hGB hGG
    have hMr : Hid (BytesAt wr g 0 (qT m)) := HM.out.fr hf hg hgG
    have hz1 : decide ((k0 : Int) + 1 < (n : Int) + 2) = true := by simp; omega
    go_wp2
    go_loop [7] (fun y => ∃ k : Nat, k ≤ n ∧ i ≤ k ∧ k0 ≤ k ∧ y = .int .i64 ((k : Int) + 1) ∧ Hid (UInv m k i out bad)) (fun y => n + 2 - (intOf y).toNat)
    case atStart => exact ⟨k0, hk0, hik0, Nat.le_refl _, rfl, hI0⟩
    case round =>
      clear hI0 hik0
      obtain ⟨k, hk, hik, hkk, rfl, hI⟩ := hrel
      have hlen : Hid (out.length + (k - i) ≤ 4 * n) := by have := hI.out.bound; have := HN.out; show _ ≤ _; omega
      by_cases hkn : k < n
      · have hkm : Hid (k < m.length) := by have := HN.out; show _ < _; omega
        have hpos := UInv.pos hkm.out
        have hat := qT_at m k hkm.out
        have ck := hMr.out (k + 1) (by rw [qT_length]; have := hkm.out; omega)
        rw [Nat.zero_add, hat] at ck
        have hokc := hI.out.okc hkm.out
        have hwl := hI.out.wle hkm.out
        rw [← HN.out] at hwl
        obtain ⟨c, hc⟩ : ∃ c, c = natL (m.drop k) 0 := ⟨_, rfl⟩
        have hc256 : c < 256 := by rw [hc]; exact natL_lt _ _
        rw [← hc] at ck
        have HC := Lib.hid hc
        clear hat hc
        by_cases hpl : plainB (c : Int) = true
        · have hcc : 32 ≤ c ∧ c < 128 ∧ ¬ c = 92 ∧ ¬ c = 34 := by unfold plainB at hpl; simp at hpl; omega
          have hpp := plain_piece _ hpos (by rw [← HC.out]; exact hcc.2.1) (by rw [← HC.out]; exact hcc.2.2.1)
          have HI : Hid (UInv m (k + 1) i out bad) := Lib.hid (hI.out.raw hkm.out 1 hpp.1 hpp.2)
          clear hpp hpos hokc hwl hcc
          go_wp2_with fail
          refine (noEscape (c : Int) true hpl.symm _).mono ?_
          rintro e w' ⟨rfl, rfl⟩
          go_wp2
          go_round
          case rel => exact ⟨k + 1, by omega, by omega, by omega, by go_num, HI⟩
          case measure => simp [intOf]; omega
        · have hpl' : plainB (c : Int) = false := by simpa using hpl
          clear hpl
          have hcn : ¬ c = 34 ∧ (c = 92 ∨ 128 ≤ c) := by
            have h1 := hpl'
            unfold plainB at h1
            have h2 := hokc
            unfold okPc at h2
            rw [← HC.out] at h2
            by_cases q : c = 92
            · omega
            · rw [if_neg q] at h2
              simp at h1 h2
              omega
          have hx34 : ((c : Int) == 34) = false := by simp; omega
          have hle1 : decide ((n : Int) + 2 ≤ (k : Int) + 1) = false := by simp; omega
          have hcx : ¬ cap = k + 1 := by omega
          have hrd := qT_rl m k hkm.out
          have hTl : ((qT m).drop (k + 1)).length = n + 1 - k := by rw [List.length_drop, qT_length, ← HN.out]; omega
          have hTpos : 0 < ((qT m).drop (k + 1)).length := by omega
          have hBT : Hid (BytesAt wr g (k + 1) ((qT m).drop (k + 1))) := Lib.hid fun j hj => by
            have h1 := hMr.out (k + 1 + j) (by rw [List.length_drop] at hj; omega)
            rw [Nat.zero_add] at h1
            rw [h1, atLd]
          have hdec := decodeRune ((qT m).drop (k + 1)) g (k + 1) (cap - (k + 1)) wr hTr.out.u8 hBT.out hTpos
          rw [hTl] at hdec
          obtain ⟨d0, d1, d2, d3⟩ := dec_head ((qT m).drop (k + 1)) hTpos
          rw [hrd.1] at d0 d1
          rw [hrd.2] at d1 d2
          have hn0 : natL ((qT m).drop (k + 1)) 0 = c := by rw [qT_nat m k 0 (by have := hkm.out; omega), HC.out]
          rw [hn0] at d1
          rcases hcn.2 with h92 | h128
          · have hN1 : decN ((qT m).drop (k + 1)) = (92, 1) := by
              have := decN_ascii ((qT m).drop (k + 1)) (by rw [hn0]; omega)
              rw [this, hn0, h92]
            rw [hN1] at hdec
            have hdec' : Calls Tryd.prog 37 #[.slice (some ⟨g, k + 1, none⟩) (n + 1 - k) (cap - (k + 1))] wr fun e w' => e = .returned (.tuple #[.int .i32 92, .int .i64 1]) ∧ Below wr.heap.size wr w' := hdec
            have HD := Lib.hid hdec'
            have HOK : Hid (okPc (m.drop k) = true) := Lib.hid hokc
            have HWL : Hid (k + dcW (m.drop k) ≤ n) := Lib.hid hwl
            have H92 : Hid (natL (m.drop k) 0 = 92) := Lib.hid (by rw [← HC.out]; exact h92)
            have HNX : Hid (∀ E w' bad', dcW (m.drop k) = w' → dcC (m.drop k) = E → (neatC (m.drop k) = true → bad' = bad) → UInv m (k + w') (k + w') (out ++ (m.drop i).take (k - i) ++ E) bad') := Lib.hid fun E w' b' hw hc hb => hI.out.esc hkm.out w' E b' hw hc hb
            have hk2 : k + 2 ≤ n := by
              have h1 := hokc
              unfold okPc at h1
              rw [if_pos H92.out, decide_eq_true_iff] at h1
              have h2 := h1.1
              rw [List.length_drop, ← HN.out] at h2
              omega
            have hol : (out ++ (m.drop i).take (k - i)).length ≤ 4 * n := by have := hlen.out; simp; omega
            obtain ⟨c1, hc1⟩ : ∃ c1, c1 = natL (m.drop k) 1 := ⟨_, rfl⟩
            have HC1 := Lib.hid hc1
            have HK1 : Hid (∀ w9, Fr base G w w9 → w9.cell? ⟨g, k + 2, none⟩ = some (.int .u8 c1)) := Lib.hid fun w9 hf9 => by
              have h1 := HM.out.fr hf9 hg hgG (k + 2) (by rw [qT_length, ← HN.out]; omega)
              rw [Nat.zero_add, show k + 2 = (k + 1) + 1 by omega, qT_at m (k + 1) (by rw [← HN.out]; omega), natL_drop, show k + 1 + 0 = k + 1 by omega] at h1
              rw [show k + 2 = (k + 1) + 1 by omega, h1, hc1, natL_drop]
            subst h92
            clear hdec hdec' d0 d1 d2 d3 hpos hokc hwl hrd hTl hTpos hn0 hcn hN1 hc1
            go_wp2_with fail
            refine (noEscape 92 false rfl _).mono ?_
            rintro e w' ⟨rfl, rfl⟩
            go_wp2_with fail
            refine HD.out.mono ?_
            rintro e wg ⟨rfl, hbg⟩
            have hbw : Buf wg base G u0 (l ++ out) := hb.belowAll hbg
            have hfw : Fr base G w wg := hf.trans (Fr.of_belowAll hbg (Nat.le_trans hbase hf.size) HGh.out)
            have hMw : Hid (BytesAt wg g 0 (qT m)) := Lib.hid (HM.out.fr hfw hg hgG)
            clear hbg HD
            have HBX := Lib.hid hbw
            have HFX := Lib.hid hfw
            have HMF : Hid (∀ w', Fr base G w w' → BytesAt w' g 0 (qT m)) := Lib.hid fun w' f => HM.out.fr f hg hgG
            have HTT : Hid (∀ w', Fr base G w w' → Tabs w' E) := Lib.hid fun w' f => HT.out.fr f hGB hGG
            have HGG : Hid (∀ o, G ≠ some (g, o)) := Lib.hid hgG
            clear hbw hfw
            go_upto_block 5 with fail
            refine wp_self (avEsc w base G g cap n i k m l out u0 u5 bad E wg HN hkn hik hcap hnb hlb hlen hbase HGh hg HGG HTT HBX HFX HMF hev hI H92 ?_)
            intro a' w'' hinv
            obtain ⟨u0, u5, u6, u7, u, hinv⟩ := hinv
            obtain ⟨⟨i', k', bad', out', hk', hik', hlt, rfl, rfl, hev', hB', hF', hI'⟩, ha⟩ := hinv
            subst ha
            clear HBX HFX hev hI
            have hbz := hB'.out
            have hfz := hF'.out
            try dsimp only
            go_wp2
            go_roundw
            case rel => exact ⟨i', k', bad', out', by omega, by omega, by go_num, by go_num, hev', hbz, hfz, hI'⟩
            case measure => simp [intOf]; omega
          · have hcn92 : ¬ natL (m.drop k) 0 = 92 := by rw [← HC.out]; omega
            have eC : dcC (m.drop k) = mendC (m.drop k) := by unfold dcC; rw [if_neg hcn92]
            have eW : dcW (m.drop k) = decW (m.drop k) := by unfold dcW; rw [if_neg hcn92]
            by_cases hz : rlL (m.drop k) = 0
            · have hdq := d0 hz
              rw [hdq] at hdec
              have hdec' : Calls Tryd.prog 37 #[.slice (some ⟨g, k + 1, none⟩) (n + 1 - k) (cap - (k + 1))] wr fun e w' => e = .returned (.tuple #[.int .i32 65533, .int .i64 1]) ∧ Below wr.heap.size wr w' := hdec
              have HD := Lib.hid hdec'
              have hw1 : decW (m.drop k) = 1 := by unfold decW; rw [if_pos hz]
              have hm1 : mendC (m.drop k) = BR := by unfold mendC; rw [if_pos hz]
              have HI : Hid (UInv m (k + 1) (k + 1) (out ++ (m.drop i).take (k - i) ++ BR) true) := Lib.hid (hI.out.esc hkm.out 1 BR true (by rw [eW, hw1]) (by rw [eC, hm1]) (fun q => by unfold neatC at q; rw [if_neg hcn92] at q; simp at q; exact absurd hz q))
              have HH128 : Hid (128 ≤ natL (m.drop k) 0) := Lib.hid (by rw [← HC.out]; exact h128)
              clear hdec hdec' hdq d0 d1 d2 d3 hz hw1 hm1 hpos hokc hwl hrd hTl hTpos hn0 eC eW hcn92 hcn
              go_wp2_with fail
              refine (noEscape (c : Int) false hpl'.symm _).mono ?_
              rintro e w' ⟨rfl, rfl⟩
              go_wp2_with fail
              refine HD.out.mono ?_
              rintro e wg ⟨rfl, hbg⟩
              have hbw : Buf wg base G u0 (l ++ out) := hb.belowAll hbg
              have hfw : Fr base G w wg := hf.trans (Fr.of_belowAll hbg (Nat.le_trans hbase hf.size) HGh.out)
              have hMw : Hid (BytesAt wg g 0 (qT m)) := Lib.hid (HM.out.fr hfw hg hgG)
              clear hbg HD
              have HBX := Lib.hid hbw
              have HFX := Lib.hid hfw
              have HMF : Hid (∀ w', Fr base G w w' → BytesAt w' g 0 (qT m)) := Lib.hid fun w' f => HM.out.fr f hg hgG
              have HTT : Hid (∀ w', Fr base G w w' → Tabs w' E) := Lib.hid fun w' f => HT.out.fr f hGB hGG
              have HGG : Hid (∀ o, G ≠ some (g, o)) := Lib.hid hgG
              clear hbw hfw
              go_upto_block 5 with fail
              refine wp_self (avInv w base G g cap n i k m l out u0 u5 bad E wg HN hkn hik hcap hnb hlb hlen hbase HGh hg HGG HTT HBX HFX HMF hev hI HH128 HI ?_)
              intro a' w'' hinv
              obtain ⟨u0, u5, u6, u7, u, hinv⟩ := hinv
              obtain ⟨⟨i', k', bad', out', hk', hik', hlt, rfl, rfl, hev', hB', hF', hI'⟩, ha⟩ := hinv
              subst ha
              clear HBX HFX hev HI hI
              have hbz := hB'.out
              have hfz := hF'.out
              try dsimp only
              go_wp2
              go_roundw
              case rel => exact ⟨i', k', bad', out', by omega, by omega, by go_num, by go_num, hev', hbz, hfz, hI'⟩
              case measure => simp [intOf]; omega
            · obtain ⟨d4, d5, d6, d7⟩ := d1 hz
              obtain ⟨wd, hwd⟩ : ∃ x, x = decW (m.drop k) := ⟨_, rfl⟩
              obtain ⟨r, hr⟩ : ∃ r, r = (decN ((qT m).drop (k + 1))).1 := ⟨_, rfl⟩
              rw [← hr, d2, ← hwd] at hdec
              have hm1 : mendC (m.drop k) = (m.drop k).take wd := by unfold mendC; rw [if_neg hz, hwd]
              have HI : Hid (UInv m (k + wd) i out bad) := Lib.hid (hI.out.raw hkm.out wd (by rw [eW, hwd]) (by rw [eC, hm1]))
              have hc2 : 2 ≤ wd := by rw [hwd]; exact d5 h128
              have hwn : k + wd ≤ n := by rw [eW, ← hwd] at hwl; exact hwl
              have HD := Lib.hid hdec
              clear hdec d0 d1 d2 d3 d4 d5 d6 d7 hz hm1 hpos hokc hwl hrd hTl hTpos hn0 eC eW hcn92 hcn hwd hr
              go_wp2_with fail
              refine (noEscape (c : Int) false hpl'.symm _).mono ?_
              rintro e w' ⟨rfl, rfl⟩
              go_wp2_with fail
              refine HD.out.mono ?_
              rintro e wg ⟨rfl, hbg⟩
              have hbw : Buf wg base G u0 (l ++ out) := hb.belowAll hbg
              have hfw : Fr base G w wg := hf.trans (Fr.of_belowAll hbg (Nat.le_trans hbase hf.size) HGh.out)
              clear hbg HD
              have HBX := Lib.hid hbw
              have HFX := Lib.hid hfw
              have HMF : Hid (∀ w', Fr base G w w' → BytesAt w' g 0 (qT m)) := Lib.hid fun w' f => HM.out.fr f hg hgG
              have HTT : Hid (∀ w', Fr base G w w' → Tabs w' E) := Lib.hid fun w' f => HT.out.fr f hGB hGG
              have HGG : Hid (∀ o, G ≠ some (g, o)) := Lib.hid hgG
              clear hbw hfw
              go_upto_block 5 with fail
              refine wp_self (avMul w base G g cap n i k m l out u0 u5 bad E (r : Int) wd wg HN hkn hik hcap hnb hlb hlen hbase HGh hg HGG HTT HBX HFX HMF hev hI hc2 hwn HI ?_)
              intro a' w'' hinv
              obtain ⟨u0, u5, u6, u7, u, hinv⟩ := hinv
              obtain ⟨⟨i', k', bad', out', hk', hik', hlt, rfl, rfl, hev', hB', hF', hI'⟩, ha⟩ := hinv
              subst ha
              clear HBX HFX hev HI hI
              have hbz := hB'.out
              have hfz := hF'.out
              try dsimp only
              go_wp2
              go_roundw
              case rel => exact ⟨i', k', bad', out', by omega, by omega, by go_num, by go_num, hev', hbz, hfz, hI'⟩
              case measure => simp [intOf]; omega
      · obtain rfl : k = n := by omega
        have hat := qT_end m
        rw [← HN.out] at hat
        have ck := hMr.out (k + 1) (by rw [qT_length]; have := HN.out; omega)
        rw [Nat.zero_add, hat] at ck
        have hfin := hFIN.out i out bad (by have := hI.out; rw [← HN.out]; exact this)
        rw [← HN.out] at hfin
        obtain ⟨hfq, hfb⟩ := hfin
        have HFQ := Lib.hid hfq
        have HFB := Lib.hid hfb
        clear hat hkn hfq hfb
        go_wp2_with fail
        refine (noEscape 34 false rfl _).mono ?_
        rintro e w' ⟨rfl, rfl⟩
        go_wp2_with (at_builtin; refine wpList_append_buf rfl (.tmp 77) (.tmp 81) 23 rfl base G u0 (l ++ out) rfl hb _ _ rfl (src_q hMr.out i k (cap - (i + 1)) hik (by rw [← HN.out]; exact Nat.le_refl _)) ?c1 ?c2 HGh.out ?_)
        case c1 => have h2 := hlen.out; have h3 := HN.out; simp; omega
        case c2 => have h1 := hf.size; omega
        intro v3 w3 hb3 hg3 hf3 _
        have hfa := hf.trans hf3
        rw [← HFQ.out] at hb3
        have hend : Hid (nt = true → u5 = .nilIface) := Lib.hid fun q => hev.out (HFB.out q)
        clear hf3 hg3 hf hb
        go_wp2
        go_ret2
        exact ⟨v3, u5, rfl, hb3, hfa, hend⟩
end Go.Proofs.YtldcoaigecnpfaaDoor
