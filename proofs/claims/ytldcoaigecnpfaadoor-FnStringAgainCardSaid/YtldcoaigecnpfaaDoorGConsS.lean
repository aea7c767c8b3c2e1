/- jsonwire.ConsumeString over the text of a string: the whole. jsonwire.ConsumeString over the text of a string. -/
import Derived.Test.YtldcoaigecnpfaaDoorGConsA
import Derived.Deep.LoopGhost
import Derived.Deep.DeepCutAuto
import Derived.Deep.CutBlock
namespace Go.Proofs.YtldcoaigecnpfaaDoor
open Go.RowKit
def ConsPost (e V : Nat) (M : List UInt8) (w : World) (en : Ending) (w' : World) : Prop := ∃ cn, en = .returned (.tuple #[.int .i64 ((e : Int) + 1), .nilIface]) ∧ FV w' V cn ∧ w.grownBy w' (some V) ∧ (cn = true → canL (M.drop 1) = true)
set_option maxRecDepth 100000 in
set_option maxHeartbeats 16000000 in
theorem consS (V g cap e : Nat) (lo vb : Bool) (T : List UInt8) (w : World) (hvb : vb = !lo) (hm : BytesAt w g 0 T) (hcap : T.length ≤ cap) (hnb : T.length ≤ 1000000) (_hT : Lib.Utf8Tabs 3 4 w)
    (h0 : atL T 0 = 34) (he : e < T.length) (h34 : atL T e = 34) (h1 : 1 ≤ e) (hs : strN lo T 1 = e) (hF : FV w V true) (hgV : g ≠ V) (hgw : g < w.heap.size) (hTB : ∀ w', w.grownBy w' (some V) → Lib.Utf8Tabs 3 4 w') :
    Calls Tryd.prog 78 #[.pointer (some ⟨V, 0, none⟩), .slice (some ⟨g, 0, none⟩) T.length cap, .int .i64 0, .bool vb] w (ConsPost e V (T.take e) w) := by
  have HST := Lib.hid (CsInv.start (lo := lo) he h34 h1 hs)
  obtain ⟨M, hM⟩ : ∃ M, M = T.take e := ⟨_, rfl⟩
  rw [← hM] at HST ⊢
  obtain ⟨n, hn⟩ : ∃ n, n = T.length := ⟨_, rfl⟩
  have HML : Hid (M.length = e) := Lib.hid (by rw [hM, List.length_take]; omega)
  have HB : Hid (∀ w', w.grownBy w' (some V) → BytesAt w' g 0 T) := Lib.hid fun w' hg j hj => (World.cell?_of_block (a := ⟨g, 0 + j, none⟩) (hg.block g hgw (fun q => hgV (Option.some.inj q)))).trans (hm j hj)
  have HTB := Lib.hid hTB
  have HVB := Lib.hid hvb
  have HN := Lib.hid hn
  have HM := Lib.hid hM
  have H34 := Lib.hid h34
  have HF := Lib.hid hF
  have HG : Hid (w.grownBy w (some V)) := Lib.hid (World.grownBy.refl w _)
  have c0 := hm 0 (by omega)
  rw [Nat.add_zero, h0] at c0
  rw [← hn] at hcap hnb he ⊢
  have hn0 : ((n : Int) == 0) = false := by simp; omega
  have hn1 : 0 < n := by omega
  clear hm _hT hM hn hvb hTB hF h34 hs h0
  go_enter Tryd.func78, Tryd.ntmps78
  go_wp2
  go_loopg [2, 8] n (fun q r2 i wx => (∃ z : Int, r2 = .int .i64 z) ∧ ∃ (k : Nat) (cn : Bool), q = n + 1 - k ∧ i = .int .i64 k ∧ Hid (CsInv lo M k cn) ∧ Hid (FV wx V cn) ∧ Hid (w.grownBy wx (some V)))
  case atStart => exact ⟨⟨0, rfl⟩, 1, true, rfl, rfl, HST, HF, HG⟩
  case round =>
    clear HST HF HG c0
    obtain ⟨⟨z, rfl⟩, k0, cn, rfl, rfl, hI0, hF, hG⟩ := hrel
    have hk0 : k0 ≤ e := by have := hI0.out.le; have := HML.out; omega
    have hz1 : decide ((k0 : Int) < (n : Int)) = true := by simp; omega
    have hz2 : k0 < n := by omega
    go_wp2
    go_loopg [8] (n + 1 - k0) (fun q y wx => ∃ k : Nat, k0 ≤ k ∧ q = n + 1 - k ∧ y = .int .i64 (k : Int) ∧ Hid (CsInv lo M k cn) ∧ Hid (FV wx V cn) ∧ Hid (w.grownBy wx (some V)))
    case atStart => exact ⟨k0, Nat.le_refl _, rfl, rfl, hI0, hF, hG⟩
    case round =>
      clear hI0 hz1 hz2 hF hG
      obtain ⟨k, hkk, rfl, rfl, hI, hF, hG⟩ := hrel
      have hke : k ≤ e := by have := hI.out.le; have := HML.out; omega
      have hkn2 : decide ((k : Int) < (n : Int)) = true := by simp; omega
      have hkn3 : decide ((n : Int) ≤ (k : Int)) = false := by simp; omega
      have ck := HB.out wr hG.out k (by rw [← HN.out]; omega)
      rw [Nat.zero_add] at ck
      by_cases hk : k < e
      · have hkm : Hid (k < M.length) := Lib.hid (by rw [HML.out]; exact hk)
        have hpos := hI.out.pos hkm.out
        have hokc := hI.out.okc hkm.out
        have hat : atL T k = (natL (M.drop k) 0 : Int) := by rw [← natL_at, atM HM.out k 0 (by omega)]; rfl
        obtain ⟨c, hc⟩ : ∃ c, c = natL (M.drop k) 0 := ⟨_, rfl⟩
        have hc256 : c < 256 := by rw [hc]; exact natL_lt _ _
        rw [hat, ← hc] at ck
        have HC := Lib.hid hc
        clear hc
        by_cases hpl : plainB (c : Int) = true
        · have hcc : 32 ≤ c ∧ c < 128 ∧ ¬ c = 92 ∧ ¬ c = 34 := by unfold plainB at hpl; simp at hpl; omega
          have hpp := decW_ascii (M.drop k) (by rw [← HC.out]; exact hcc.2.1)
          have h92 : ¬ natL (M.drop k) 0 = 92 := by rw [← HC.out]; exact hcc.2.2.1
          have HI : Hid (CsInv lo M (k + 1) cn) := Lib.hid (hI.out.next hkm.out 1 (by unfold dcW; rw [if_neg h92]; exact hpp.2) cn (fun q => ⟨q, by unfold canC; rw [if_neg h92, hpp.1]; rfl⟩))
          clear hpp hpos hokc hcc hat h92
          go_wp2_with fail
          refine (noEscapeC (c : Int) true hpl.symm _).mono ?_
          rintro e w' ⟨rfl, rfl⟩
          go_wp2
          go_roundg (n + 1 - (k + 1))
          case measure => omega
          case rel => exact ⟨k + 1, by omega, rfl, by go_num, HI, hF, hG⟩
        · have hpl' : plainB (c : Int) = false := by simpa using hpl
          clear hpl
          have hcn : ¬ c = 34 ∧ (c = 92 ∨ 128 ≤ c) := by
            have h1 := hpl'
            unfold plainB at h1
            have h2 := hokc
            unfold okPc at h2
            rw [← HC.out] at h2
            by_cases q : c = 92
            · omega
            · rw [if_neg q] at h2
              simp at h1 h2
              omega
          have hx34 : ((c : Int) == 34) = false := by simp; omega
          have hcx : ¬ cap = k := by omega
          have hTl : (T.drop k).length = n - k := by rw [List.length_drop, ← HN.out]
          have hTpos : 0 < (T.drop k).length := by omega
          have hcut : M.drop k = (T.drop k).take (e - k) := by rw [HM.out, List.drop_take]
          have hcut34 : atL (T.drop k) (e - k) = 34 := by rw [atLd, show k + (e - k) = e by omega]; exact H34.out
          have hrlc := rl_cut (T.drop k) (e - k) (by omega) (by omega) hcut34
          have hdwc := decW_cut (T.drop k) (e - k) (by omega) (by omega) hcut34
          rw [← hcut] at hrlc hdwc
          have hBT : Hid (BytesAt wr g k (T.drop k)) := Lib.hid fun j hj => by
            have h1 := HB.out wr hG.out (k + j) (by rw [List.length_drop] at hj; omega)
            rw [Nat.zero_add] at h1
            rw [h1, atLd]
          have hdec := decodeRune (T.drop k) g k (cap - k) wr (HTB.out wr hG.out) hBT.out hTpos
          rw [hTl] at hdec
          obtain ⟨d0, d1, d2, d3⟩ := dec_head (T.drop k) hTpos
          rw [← hrlc] at d0 d1
          rw [← hdwc] at d1 d2
          have hn0 : natL (T.drop k) 0 = c := by
            have : ((natL (T.drop k) 0 : Nat) : Int) = c := by rw [← natL_at, atLd]; exact hat.trans (by rw [← HC.out])
            omega
          rw [hn0] at d1
          rcases hcn.2 with h92 | h128
          · have hN1 : decN (T.drop k) = (92, 1) := by
              have : decN (T.drop k) = (natL (T.drop k) 0, 1) := by unfold decN Go.Lib.decodeN; rw [if_pos (by rw [hn0]; omega)]
              rw [this, hn0, h92]
            rw [hN1] at hdec
            have hdec' : Calls Tryd.prog 37 #[.slice (some ⟨g, k, none⟩) (n - k) (cap - k)] wr fun e w' => e = .returned (.tuple #[.int .i32 92, .int .i64 1]) ∧ Below wr.heap.size wr w' := hdec
            have HD := Lib.hid hdec'
            have H92 : Hid (natL (M.drop k) 0 = 92) := Lib.hid (by rw [← HC.out]; exact h92)
            subst h92
            clear hdec hdec' d0 d1 d2 d3 hpos hokc hcut hcut34 hrlc hdwc hTl hTpos hn0 hcn hN1 hat
            go_wp2_with fail
            refine (noEscapeC 92 false rfl _).mono ?_
            rintro e w' ⟨rfl, rfl⟩
            go_wp2_with fail
            refine HD.out.mono ?_
            rintro e wg ⟨rfl, hbg⟩
            have HFX := Lib.hid (hF.out.below hbg)
            have HGX := Lib.hid (grownV_below hG.out hbg)
            clear hbg HD
            go_upto_block 5 with fail
            refine wp_selfC (csEsc w _ k V g n cap lo cn vb T M _ wg HVB hk he hcap hnb HN HM H34 HTB HB HFX HGX hI H92 ?_)
            intro a' w'' hinv
            obtain ⟨u2, u8, u, hinv⟩ := hinv
            obtain ⟨⟨⟨z', rfl⟩, k', cn', hlt, rfl, hI', hF', hG'⟩, ha⟩ := hinv
            subst ha
            clear HFX HGX hI
            try dsimp only
            go_wp2
            go_roundg (n + 1 - k')
            case measure => have h1 := hI'.out.le; have h2 := HML.out; omega
            case rel => exact ⟨⟨z', rfl⟩, k', cn', rfl, rfl, hI', hF', hG'⟩
          · have hcn92 : ¬ natL (M.drop k) 0 = 92 := by rw [← HC.out]; omega
            have eC : canC (M.drop k) = decide (¬ rlL (M.drop k) = 0) := by unfold canC; rw [if_neg hcn92]
            have eW : dcW (M.drop k) = decW (M.drop k) := by unfold dcW; rw [if_neg hcn92]
            have hwl := hI.out.wle hkm.out
            rw [HML.out] at hwl
            by_cases hz : rlL (M.drop k) = 0
            · have hlo : lo = true := by
                cases hl : lo
                · have := hI.out.neatc hkm.out hl
                  unfold neatC at this
                  rw [if_neg hcn92] at this
                  simp at this
                  exact absurd hz this
                · rfl
              have hdq := d0 hz
              rw [hdq] at hdec
              have hdec' : Calls Tryd.prog 37 #[.slice (some ⟨g, k, none⟩) (n - k) (cap - k)] wr fun e w' => e = .returned (.tuple #[.int .i32 65533, .int .i64 1]) ∧ Below wr.heap.size wr w' := hdec
              have HD := Lib.hid hdec'
              have HI : Hid (CsInv lo M (k + 1) false) := Lib.hid (hI.out.next hkm.out 1 (by rw [eW]; unfold decW; rw [if_pos hz]) false (fun q => by cases q))
              have HH128 : Hid (128 ≤ natL (T.drop k) 0) := Lib.hid (by rw [hn0]; exact h128)
              have HE3 : Hid (n = k + 3 → natL (T.drop k) 1 = 34 ∨ natL (T.drop k) 2 = 34) := Lib.hid fun q => by
                have : e = k + 1 ∨ e = k + 2 := by omega
                rcases this with q | q
                · left
                  have h := hcut34
                  rw [q, show k + 1 - k = 1 by omega, natL_at] at h
                  omega
                · right
                  have h := hcut34
                  rw [q, show k + 2 - k = 2 by omega, natL_at] at h
                  omega
              clear hdec hdec' hdq d0 d1 d2 d3 hz hpos hokc hwl hcut hcut34 hrlc hdwc hTl hTpos hn0 eC eW hcn92 hcn hat
              go_wp2_with fail
              refine (noEscapeC (c : Int) false hpl'.symm _).mono ?_
              rintro e w' ⟨rfl, rfl⟩
              go_wp2_with fail
              refine HD.out.mono ?_
              rintro e wg ⟨rfl, hbg⟩
              have HFX := Lib.hid (hF.out.below hbg)
              have HGX := Lib.hid (grownV_below hG.out hbg)
              clear hbg HD
              go_upto_block 5 with fail
              refine wp_selfC (csInv w _ k V g n cap lo cn vb T M _ wg HVB hk he hcap hnb HN HM H34 HTB HB HFX HGX hI hlo HH128 HE3 HI ?_)
              intro a' w'' hinv
              obtain ⟨u2, u8, u, hinv⟩ := hinv
              obtain ⟨⟨⟨z', rfl⟩, k', cn', hlt, rfl, hI', hF', hG'⟩, ha⟩ := hinv
              subst ha
              clear HFX HGX hI HI
              try dsimp only
              go_wp2
              go_roundg (n + 1 - k')
              case measure => have h1 := hI'.out.le; have h2 := HML.out; omega
              case rel => exact ⟨⟨z', rfl⟩, k', cn', rfl, rfl, hI', hF', hG'⟩
            · obtain ⟨d4, d5, d6, d7⟩ := d1 hz
              obtain ⟨wd, hwd⟩ : ∃ x, x = decW (M.drop k) := ⟨_, rfl⟩
              obtain ⟨r, hr⟩ : ∃ r, r = (decN (T.drop k)).1 := ⟨_, rfl⟩
              rw [← hr, d2, ← hwd] at hdec
              have HI : Hid (CsInv lo M (k + wd) cn) := Lib.hid (hI.out.next hkm.out wd (by rw [eW, hwd]) cn (fun q => ⟨q, by rw [eC]; exact decide_eq_true hz⟩))
              have hc2 : 2 ≤ wd := by rw [hwd]; exact d5 h128
              have hwn : k + wd ≤ e := by rw [eW, ← hwd] at hwl; exact hwl
              have HD := Lib.hid hdec
              clear hdec d0 d1 d2 d3 d4 d5 d6 d7 hz hpos hokc hwl hcut hcut34 hrlc hdwc hTl hTpos hn0 eC eW hcn92 hcn hwd hr hat
              go_wp2_with fail
              refine (noEscapeC (c : Int) false hpl'.symm _).mono ?_
              rintro e w' ⟨rfl, rfl⟩
              go_wp2_with fail
              refine HD.out.mono ?_
              rintro e wg ⟨rfl, hbg⟩
              have HFX := Lib.hid (hF.out.below hbg)
              have HGX := Lib.hid (grownV_below hG.out hbg)
              clear hbg HD
              go_upto_block 5 with fail
              refine wp_selfC (csMul w _ k V g n cap lo cn vb T M _ (r : Int) wd wg HVB hk he hcap hnb HN HM H34 HTB HB HFX HGX hI hc2 hwn HI ?_)
              intro a' w'' hinv
              obtain ⟨u2, u8, u, hinv⟩ := hinv
              obtain ⟨⟨⟨z', rfl⟩, k', cn', hlt, rfl, hI', hF', hG'⟩, ha⟩ := hinv
              subst ha
              clear HFX HGX hI HI
              try dsimp only
              go_wp2
              go_roundg (n + 1 - k')
              case measure => have h1 := hI'.out.le; have h2 := HML.out; omega
              case rel => exact ⟨⟨z', rfl⟩, k', cn', rfl, rfl, hI', hF', hG'⟩
      · obtain rfl : k = e := by omega
        have hat : atL T k = 34 := H34.out
        rw [hat] at ck
        have HFIN : Hid (cn = true → canL (M.drop 1) = true) := Lib.hid (CsInv.fin (lo := lo) (by rw [HML.out]; exact hI.out))
        clear hat hk
        go_wp2_with fail
        refine (noEscapeC 34 false rfl _).mono ?_
        rintro e w' ⟨rfl, rfl⟩
        go_wp2
        go_ret2
        exact ⟨cn, rfl, hF.out, hG.out, HFIN.out⟩
end Go.Proofs.YtldcoaigecnpfaaDoor
namespace Go.Proofs.YtldcoaigecnpfaaDoor
open Go.RowKit
set_option maxRecDepth 100000 in
set_option maxHeartbeats 4000000 in
theorem consume (V g cap e : Nat) (lo vb : Bool) (T : List UInt8) (w : World) (hvb : vb = !lo) (hm : BytesAt w g 0 T) (hcap : T.length ≤ cap) (hnb : T.length ≤ 1000000) (hT : Lib.Utf8Tabs 3 4 w)
    (h0 : atL T 0 = 34) (he : e < T.length) (h34 : atL T e = 34) (h1 : 1 ≤ e) (hs : strN lo T 1 = e) (hF : FV w V true) (hgV : g ≠ V) (hgw : g < w.heap.size) (hTB : ∀ w', w.grownBy w' (some V) → Lib.Utf8Tabs 3 4 w') :
    Calls Tryd.prog 51 #[.pointer (some ⟨V, 0, none⟩), .slice (some ⟨g, 0, none⟩) T.length cap, .bool vb] w (ConsPost e V (T.take e) w) := by
  have HC := Lib.hid (consS V g cap e lo vb T w hvb hm hcap hnb hT h0 he h34 h1 hs hF hgV hgw hTB)
  clear hm hT hTB hF h34 hs h0 hcap hnb hvb
  generalize T.take e = M at HC ⊢
  generalize T.length = n at HC he ⊢
  go_enter Tryd.func51, Tryd.ntmps51
  go_wp2_with fail
  refine HC.out.mono ?_
  rintro en w' ⟨cn, rfl, h⟩
  have H := Lib.hid h
  clear h HC
  go_wp2
  go_ret2
  exact ⟨cn, rfl, H.out⟩
end Go.Proofs.YtldcoaigecnpfaaDoor
