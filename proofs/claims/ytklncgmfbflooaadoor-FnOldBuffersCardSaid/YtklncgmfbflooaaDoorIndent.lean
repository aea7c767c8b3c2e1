/- jsonscan.appendIndent, walked: it appends what the machine says, if the text is a value. -/
import Derived.Test.YtklncgmfbflooaaDoorCompact
import Derived.Test.YtklncgmfbflooaaDoorNewline
namespace Go.Proofs.YtklncgmfbflooaaDoor
open Go.RowKit
theorem ScB.setN {w : World} {S B : Nat} {s : Cfg} {v : Value} (h : ScB w S B s v) (k : Int) : ScB (w.setCell ⟨S, 4, none⟩ (.int .i64 k)) S B s v :=
  ⟨h.sc.setN k, fun g e => ⟨by simpa [World.setCell] using (h.ap g e).1, (h.ap g e).2.1, fun u hu => (h.ap g e).2.2 u ((World.cell?_setCell_other _ _ _ _ (by simp)).symm.trans hu)⟩⟩
theorem iSt_succ (P I l : List UInt8) (k : Nat) : iSt P I l (k + 1) = ((stepM (iSt P I l k).1.q (iSt P I l k).1 (atL l k)).1, iR P I (stepM (iSt P I l k).1.q (iSt P I l k).1 (atL l k)).2 (l.getD k 0) (iSt P I l k).2) := rfl
theorem iSt_bnd2 (P I l : List UInt8) (hp : P.length ≤ 16) (hi : I.length ≤ 16) (hl : l.length < 10000) (k : Nat) (hk : k ≤ l.length) : -20000 ≤ (iSt P I l k).2.depth ∧ (iSt P I l k).2.depth ≤ 20000 ∧ (iSt P I l k).2.out.length ≤ 10000000000 := by
  obtain ⟨h1, h2, h3⟩ := iSt_bnd P I l hp hi k
  have : k * (100 + 64 * k) ≤ 10000 * (100 + 64 * 10000) := Nat.mul_le_mul (by omega) (by omega)
  exact ⟨by omega, by omega, by omega⟩
set_option maxRecDepth 100000 in
set_option maxHeartbeats 16000000 in
theorem appendIndentS (base : Nat) (G : Option (Nat × Nat)) (v : Value) (l0 : List UInt8) (g cap : Nat) (l : List UInt8) (pre ind : ByteArray) (w : World) (hB : Buf w base G v l0) (hm : BytesAt w g 0 l) (hcap : l.length ≤ cap) (hl : l.length < 10000) (hsz : l0.length ≤ 1000000) (hpre : pre.size ≤ 16) (hind : ind.size ≤ 16)
    (hbase : base ≤ w.heap.size) (hG : ∀ g o, G = some (g, o) → g < base) (hg : g < base) (hgG : ∀ o, G ≠ some (g, o)) :
    Calls Tryd.prog 57 #[v, .slice (some ⟨g, 0, none⟩) l.length cap, .string pre, .string ind] w (CmpPost (takenB l) base G l0 (l0 ++ indL pre.data.toList ind.data.toList l) w) := by
  have HNS := Lib.hid (newScannerS w)
  have HV : Hid (goM l c0C 0 = takenB l) := Lib.hid (scan_taken l)
  have HBW := Lib.hid hB
  obtain ⟨P, hP⟩ : ∃ P, P = pre.data.toList := ⟨_, rfl⟩
  obtain ⟨I, hI⟩ : ∃ I, I = ind.data.toList := ⟨_, rfl⟩
  have HNL : Hid (∀ (base : Nat) (G : Option (Nat × Nat)) (v : Value) (l : List UInt8) (d : Int) (w : World), Buf w base G v l → d ≤ 100000 → -100000 ≤ d → l.length ≤ 100000000000 → base ≤ w.heap.size → (∀ g o, G = some (g, o) → g < base) → Calls Tryd.prog 74 #[v, .string pre, .string ind, .int .i64 d] w (HtmlPost base G (l ++ nlL P I d) w)) := Lib.hid fun base G v l d w a b c e f h => by rw [hP, hI]; exact appendNL base G v l pre ind d w a b c hpre hind e f h
  have HBND : Hid (∀ k, k ≤ l.length → -20000 ≤ (iSt P I l k).2.depth ∧ (iSt P I l k).2.depth ≤ 20000 ∧ (iSt P I l k).2.out.length ≤ 10000000000) := Lib.hid fun k hk => iSt_bnd2 P I l (by rw [hP, size_list]; exact hpre) (by rw [hI, size_list]; exact hind) hl k hk
  have HNB : Hid (∀ (d : Int), d ≤ 30000 → (nlL P I d).length ≤ 17 + 16 * 30000) := Lib.hid fun d hd => nlL_len P I d 30000 hd (by rw [hP, size_list]; exact hpre) (by rw [hI, size_list]; exact hind)
  rw [← hP, ← hI]
  obtain ⟨va, vc, hv, _⟩ := hB.shape
  obtain ⟨n0, hn0⟩ : ∃ n0, n0 = l0.length := ⟨_, rfl⟩
  rw [← hn0] at hv
  subst hv
  obtain ⟨Q, hQ⟩ : ∃ Q, Q = indL P I l := ⟨_, rfl⟩
  have HQ := Lib.hid hQ
  have HGH := Lib.hid hG
  have HBM := Lib.hid hbase
  have HM : Hid (∀ w', Fr base G w w' → BytesAt w' g 0 l) := Lib.hid fun w' f => hm.fr f hg hgG
  rw [← hQ]
  generalize takenB l = b at HV ⊢
  obtain ⟨n, hn⟩ : ∃ n, n = l.length := ⟨_, rfl⟩
  obtain ⟨S, hS⟩ : ∃ S, S = w.heap.size := ⟨_, rfl⟩
  rw [← hn] at hcap hl ⊢
  have HN := Lib.hid hn
  have HN0 := Lib.hid hn0
  have HS := Lib.hid hS
  have hbS : base ≤ S := by rw [hS]; exact hbase
  have HSZ := Lib.hid hsz
  clear hB hm hQ hG hbase hn hn0 hS hsz hP hI hpre hind
  have hmf : ∀ (fn : Fn) (first cap : Array Value) (w : World), (Instr.makeFunc fn first cap).run Tryd.prog w = .ok (.func fn first cap) w := fun _ _ _ _ => rfl
  go_enter_defers Tryd.func57, Tryd.ntmps57
  go_wp2_with fail
  refine HNS.out.mono ?_
  rintro e w1 ⟨rfl, h1, b1⟩
  rw [← HS.out] at h1 b1 ⊢
  have H1 : Hid (ScB w1 S (S + 1) c0C (.slice va n0 vc)) := Lib.hid (by rw [HS.out] at h1 b1 ⊢; exact ScB.new HBW.out h1 b1.size)
  have B1 : Hid (Buf w1 base G (.slice va n0 vc) (l0 ++ [])) := Lib.hid (by rw [List.append_nil]; exact HBW.out.below b1 (by rw [HS.out]; exact HBW.out.block))
  have F1 : Hid (Fr base G w w1) := Lib.hid (Fr.of_below (b1.mono hbS) HGH.out)
  clear h1 b1 HNS
  go_wp2
  go_loopg [0, 12, 13, 23] n (fun q d nd dp i wx => ∃ (k : Nat) (s : Cfg) (need : Bool) (dep : Int) (out : List UInt8), k ≤ n ∧ q = n - k ∧ i = .int .i64 k ∧ nd = .bool need ∧ dp = .int .i64 dep ∧ -20000 ≤ dep ∧ dep ≤ 20000 ∧ out.length ≤ 10000000000 ∧ Hid (iSt P I l k = (s, ⟨need, dep, out⟩)) ∧ Hid (Buf wx base G d (l0 ++ out)) ∧ Hid (ScB wx S (S + 1) s d) ∧ Hid (Fr base G w wx) ∧ Hid (InvC s k) ∧ Hid (goM l s k = b))
  case atStart => exact ⟨0, c0C, false, 0, [], Nat.zero_le _, rfl, rfl, rfl, rfl, by omega, by omega, by simp, Lib.hid rfl, B1, H1, F1, Lib.hid ⟨fun x hx => (by simp [c0C] at hx), Nat.zero_le _, (fun z => by cases z), (fun z => by cases z)⟩, HV⟩
  case round =>
    clear H1 B1 F1 HV
    obtain ⟨k, s, need, dep, out, hk, rfl, rfl, rfl, rfl, hd1, hd2, hob, hC, hB, hS, hF, hI, hM⟩ := hrel
    by_cases hkn : k < n
    · have hkl : k < l.length := by rw [← HN.out]; exact hkn
      have ck := HM.out wr hF.out k hkl
      rw [Nat.zero_add] at ck
      obtain ⟨x, hx⟩ : ∃ x, x = l.getD k 0 := ⟨_, rfl⟩
      obtain ⟨c, hc⟩ : ∃ c, c = atL l k := ⟨_, rfl⟩
      have hcx : c = (x.toNat : Int) := by rw [hc, hx]; rfl
      have hcr := atL_range l k
      rw [← hc] at ck hcr
      have HC := Lib.hid hc
      have HXX := Lib.hid hx
      have HXC := Lib.hid hcx
      clear hc hx hcx
      obtain ⟨n4, c4⟩ := hS.out.sc.c4
      have f4 := hS.out.sc.fz 4
      have HSN := Lib.hid (fun X => hS.out.setN X)
      have c0' := fun X => (HSN.out X).sc.c0
      have hst : Hid (∀ X : Int, Calls Tryd.prog (fid s.q) #[.pointer (some ⟨S, 0, none⟩), .int .u8 c] (wr.setCell ⟨S, 4, none⟩ (.int .i64 X)) (StepB S (S + 1) (stepM s.q s c) u0 (wr.setCell ⟨S, 4, none⟩ (.int .i64 X)))) := Lib.hid fun X => stepB s.q S (S + 1) s c u0 _ (HSN.out X) ⟨hI.out.el, by have := hI.out.len; omega⟩ hcr.1 hI.out.bse
      have H57 : Hid (∀ X : Int, Fr base G w (wr.setCell ⟨S, 4, none⟩ (.int .i64 X)) ∧ (∀ q, u0.ownBlock = some q → (wr.setCell ⟨S, 4, none⟩ (.int .i64 X)).heap[q]? = wr.heap[q]?)) := Lib.hid fun X => ⟨hF.out.trans (((Gr2.refl (S + 1) wr S S).set (.int .i64 X) (q := ⟨S, 4, none⟩) (.inl rfl)).fr hbS (Nat.lt_succ_self S) HGH.out), fun q hq => Below.heap_setCell _ _ _ _ (hS.out.ap q hq).2.1⟩
      have hq := enterQ s.q
      have hinv := Lib.hid (inv_step hI.out c)
      have hbad := Lib.hid (bad_step hI.out c)
      have hgo := goM_at (l := l) (s := s) hkl
      rw [hM.out, ← HC.out] at hgo
      have HGO := Lib.hid hgo
      have HCS : Hid (iSt P I l (k + 1) = ((stepM s.q s c).1, iR P I (stepM s.q s c).2 x ⟨need, dep, out⟩)) := Lib.hid (by rw [iSt_succ, hC.out]; simp only; rw [← HC.out, ← HXX.out])
      generalize stepM s.q s c = r at hst hinv hbad HGO HCS
      generalize fid s.q = fq at c0' hst hq
      clear hgo hI hM hC
      go_wp2_with fail
      refine (hst.out _).mono ?_
      rintro e w2 ⟨rfl, h2, g2, k2⟩
      have H2 := Lib.hid h2
      have HBf : Hid (Buf w2 base G u0 (l0 ++ out)) := Lib.hid (hB.out.kept fun q hq => (k2 q hq).trans ((H57.out _).2 q hq))
      have HFf := Lib.hid ((H57.out _).1.trans (g2.fr hbS (Nat.lt_succ_self S) HGH.out))
      clear h2 g2 k2 hst hq c0' hB hS hF H57 HSN c4 f4 ck
      by_cases h11 : r.2 = 11
      · have hbf : b = false := by rw [HGO.out, if_pos h11]
        have her : r.1.er = true := hbad.out h11
        have hv : eofM r.1 = false := by unfold eofM; rw [if_pos her]
        have HE := Lib.hid (eofB S (S + 1) (k + 1) r.1 u0 w2 H2.out hinv.out (by omega))
        rw [hv] at HE
        rw [h11]
        have hB := HBf
        have hS := H2
        have hF := HFf
        clear HGO hbad hinv HCS her hv h11 H2 HBf HFf
        subst hbf
        have hsh : (u0 = .slice none 0 0 ∧ n0 = 0) ∨ ∃ g' o' m' c', u0 = .slice (some ⟨g', o', none⟩) m' c' ∧ n0 ≤ m' ∧ m' ≤ c' ∧ Hid (BytV w2 (.slice (some ⟨g', o', none⟩) n0 c') l0) := by
          rcases hB.out with ⟨q1, q2⟩ | ⟨g', o', c', cur, fz, q1, _, hh, hc', _, _, _, hbb⟩
          · exact .inl ⟨q1, by rw [HN0.out, (List.append_eq_nil_iff.1 q2).1]; rfl⟩
          · refine .inr ⟨g', o', _, c', q1, by rw [HN0.out]; simp, hc', Lib.hid (.inr ⟨g', o', c', by rw [HN0.out], ?_, fun j hj => ?_, (Array.getElem?_eq_some_iff.1 hh).1⟩)⟩
            · simp at hc'; omega
            · rw [cell_of_row w2 g' (o' + j) cur _ fz hh, hbb j (by simp; omega), atL_app_left _ _ j hj]
        rcases hsh with ⟨rfl, hz⟩ | ⟨g', o', m', c', rfl, hm1, hm2, hby⟩
        · subst hz
          have hl0 : l0 = [] := List.eq_nil_of_length_eq_zero HN0.out.symm
          subst hl0
          go_wp2_with fail
          refine HE.out.mono ?_
          rintro e w2 ⟨s', rfl, h2, g2, her, k2⟩
          obtain ⟨x, c3, _, e2⟩ := h2.sc.c3
          obtain ⟨p, rfl, hp, hs⟩ := e2 (her rfl)
          have H2 := Lib.hid h2.sc
          have G2 := Lib.hid (hF.out.trans (g2.fr hbS (Nat.lt_succ_self S) HGH.out))
          have P2 := Lib.hid (And.intro hp hs)
          clear h2 g2 her e2 k2 hF hB HE hp hs
          go_wp2
          refine wp_region_noPanic ?_
          go_quiet (fail)
          refine NoPanic.normal ?_
          go_wp2
          refine leaves_cons (f := 73) (args := #[.pointer (some ⟨S, 0, none⟩)]) (by simp) (by simp [go_sem]) ?_
          refine (freeX S (S + 1) s' _ _ (scDrew H2.out _)).mono ?_
          rintro e u' w3 ⟨rfl, rfl, g3, k3⟩
          have hF3 := (frDrew G2.out _).trans (g3.fr hbS (Nat.lt_succ_self S) HGH.out)
          have hp3 := (synDrew P2.out.2 _).same (k3 p (by have := P2.out.1; omega))
          simp [Leaves, settle, results, Tryd.results57, go_sem]
          exact ⟨_, _, rfl, (fun z => by cases z), fun _ => ⟨p, rfl, hp3, .inl ⟨rfl, rfl⟩⟩, hF3⟩
        · have hnS : ¬ g' = S := (hS.out.ap g' rfl).2.1
          go_wp2_with fail
          refine HE.out.mono ?_
          rintro e w2 ⟨s', rfl, h2, g2, her, k2⟩
          obtain ⟨x, c3, _, e2⟩ := h2.sc.c3
          obtain ⟨p, rfl, hp, hs⟩ := e2 (her rfl)
          have H2 := Lib.hid h2.sc
          have G2 := Lib.hid (hF.out.trans (g2.fr hbS (Nat.lt_succ_self S) HGH.out))
          have P2 := Lib.hid (And.intro hp hs)
          have BV2 : Hid (BytV w2 (.slice (some ⟨g', o', none⟩) n0 c') l0) := Lib.hid (hby.out.kept k2 g2.size)
          have hcc : n0 ≤ c' := by omega
          clear h2 g2 her e2 k2 hF hB HE hp hs hby
          go_wp2
          refine wp_region_noPanic ?_
          go_quiet (fail)
          refine NoPanic.normal ?_
          go_wp2
          refine leaves_cons (f := 73) (args := #[.pointer (some ⟨S, 0, none⟩)]) (by simp) (by simp [go_sem]) ?_
          refine (freeX S (S + 1) s' _ _ (scDrew H2.out _)).mono ?_
          rintro e u' w3 ⟨rfl, rfl, g3, k3⟩
          have hF3 := (frDrew G2.out _).trans (g3.fr hbS (Nat.lt_succ_self S) HGH.out)
          have hp3 := (synDrew P2.out.2 _).same (k3 p (by have := P2.out.1; omega))
          have hb3 := (bvDrew BV2.out _).kept (fun q hq => k3 q (by obtain rfl : g' = q := Option.some.inj hq; exact hnS)) g3.size
          simp [Leaves, settle, results, Tryd.results57, go_sem]
          exact ⟨_, _, rfl, (fun z => by cases z), fun _ => ⟨p, rfl, hp3, hb3⟩, hF3⟩
      · have hbt : goM l r.1 (k + 1) = b := by rw [HGO.out, if_neg h11]
        have HBT := Lib.hid hbt
        have h11' : (r.2 == 11) = false := by simpa using h11
        by_cases h9 : r.2 = 9
        · have HC3 : Hid (iSt P I l (k + 1) = (r.1, ⟨need, dep, out⟩)) := Lib.hid (by rw [HCS.out]; unfold iR; rw [if_pos h9])
          rw [h9]
          clear HGO hbad HCS h11 hbt h11' h9
          go_wp2
          go_roundg (n - (k + 1))
          case measure => omega
          case rel => exact ⟨k + 1, r.1, need, dep, out, hkn, rfl, by go_num, rfl, rfl, hd1, hd2, hob, HC3, HBf, H2, HFf, hinv, HBT⟩
        · have h9' : (r.2 == 9) = false := by simpa using h9
          have HCS2 : Hid (iSt P I l (k + 1) = (r.1, ip2 P I r.2 x (ip1 P I r.2 ⟨need, dep, out⟩))) := Lib.hid (by rw [HCS.out]; unfold iR; rw [if_neg h9])
          obtain ⟨b1, hb1⟩ : ∃ b1, b1 = decide (need = true ∧ ¬ r.2 = 5 ∧ ¬ r.2 = 8) := ⟨_, rfl⟩
          have HB1 := Lib.hid hb1
          clear hb1 HGO hbad HCS h11 hbt h9
          go_upto_region 13 with fail
          go_cut [53] from 45 to 52 (fun t wx => t = .bool b1 ∧ w2 = wx)
          case first =>
            cases need
            · have e : b1 = false := by rw [HB1.out]; exact decide_eq_false (fun q => by cases q.1)
              subst e
              go_wp2
              go_meet
              exact ⟨rfl, rfl⟩
            · by_cases h5 : r.2 = 5
              · have e : b1 = false := by rw [HB1.out]; exact decide_eq_false (fun q => q.2.1 h5)
                subst e
                have e1 : (r.2 != 5) = false := by simpa using h5
                clear h5
                go_wp2
                go_meet
                exact ⟨rfl, rfl⟩
              · have e1 : (r.2 != 5) = true := by simpa using h5
                by_cases h8 : r.2 = 8
                · have e : b1 = false := by rw [HB1.out]; exact decide_eq_false (fun q => q.2.2 h8)
                  subst e
                  have e2 : (r.2 != 8) = false := by simpa using h8
                  clear h5 h8
                  go_wp2
                  go_meet
                  exact ⟨rfl, rfl⟩
                · have e : b1 = true := by rw [HB1.out]; exact decide_eq_true ⟨rfl, h5, h8⟩
                  subst e
                  have e2 : (r.2 != 8) = true := by simpa using h8
                  clear h5 h8
                  go_wp2
                  go_meet
                  exact ⟨rfl, rfl⟩
          case rest =>
            obtain ⟨rfl, rfl⟩ := hcut
            go_upto_if 53 with fail
            go_cut [0, 12, 13] from 54 to 60 (fun d nd dp wx => ∃ (need1 : Bool) (dep1 : Int) (out1 : List UInt8), nd = .bool need1 ∧ dp = .int .i64 dep1 ∧ dep1 ≤ 20001 ∧ -20001 ≤ dep1 ∧ out1.length ≤ 10001000000 ∧ Hid (ip1 P I r.2 ⟨need, dep, out⟩ = ⟨need1, dep1, out1⟩) ∧ Hid (Buf wx base G d (l0 ++ out1)) ∧ Hid (ScB wx S (S + 1) r.1 d) ∧ Hid (Fr base G w wx))
            case first =>
              cases b1
              · have HP : Hid (ip1 P I r.2 ⟨need, dep, out⟩ = ⟨need, dep, out⟩) := Lib.hid (by unfold ip1; rw [if_neg (fun q => by have h1 := HB1.out; rw [decide_eq_true q] at h1; cases h1)])
                go_wp2
                go_meet
                exact ⟨need, dep, out, rfl, rfl, by omega, by omega, by omega, HP, HBf, H2, HFf⟩
              · have hq : need = true ∧ ¬ r.2 = 5 ∧ ¬ r.2 = 8 := of_decide_eq_true HB1.out.symm
                have HP : Hid (ip1 P I r.2 ⟨need, dep, out⟩ = ⟨false, dep + 1, out ++ nlL P I (dep + 1)⟩) := Lib.hid (by unfold ip1; rw [if_pos hq])
                have hnb := HNB.out (dep + 1) (by omega)
                clear hq
                go_wp2_with fail
                refine (HNL.out _ _ u0 _ (dep + 1) w2 HBf.out.rebase (by omega) (by omega) (by have := HSZ.out; simp; omega) (Nat.le_refl _) HBf.out.place_lt).mono ?_
                rintro e w3 ⟨v3, rfl, hb3, hf3⟩
                obtain ⟨hS3, hB3, hF3⟩ := H2.out.more HBf.out (Nat.le_trans HBM.out HFf.out.size) HGH.out hb3 hf3.grown hf3
                have hFx3 := HFf.out.trans hF3
                have HS3 := Lib.hid hS3
                have HB3 := Lib.hid hB3
                have HF3 := Lib.hid hFx3
                clear hb3 hf3 hF3 hS3 hB3 hFx3
                have hol : (out ++ nlL P I (dep + 1)).length ≤ 10001000000 := by rw [List.length_append]; omega
                clear hnb
                go_wp2
                go_meet
                exact ⟨false, dep + 1, _, rfl, by go_num, by omega, by omega, hol, HP, Lib.hid (by simpa only [List.append_assoc, List.nil_append, List.cons_append] using HB3.out), HS3, HF3⟩
            case rest =>
              clear HBf H2 HFf HB1 hob hd1 hd2
              obtain ⟨need1, dep1, out1, rfl, rfl, hd1, hd2, hob, HP1, hB, hS, hF⟩ := hcut
              have HCS := HCS2
              have hcx := HXC.out
              have HBY : Hid (∀ W : World, BytesAt (W.alloc (Obj.cells #[.int .u8 c] 5)) W.heap.size 0 [x]) := Lib.hid fun W => by rw [hcx]; exact bytes_new W [x] _
              have HBY2 : Hid (∀ W : World, BytesAt (W.alloc (Obj.cells #[.int .u8 c, .int .u8 32] 5)) W.heap.size 0 [x, 32]) := Lib.hid fun W => by rw [hcx]; exact bytes_new W [x, 32] _
              have HXI : Hid (∀ v : UInt8, (x.toNat : Int) = (v.toNat : Int) → x = v) := Lib.hid fun v q => UInt8.toNat_inj.1 (by omega)
              clear HCS2 hcx
              by_cases h0 : r.2 = 0
              · have HC3 : Hid (iSt P I l (k + 1) = (r.1, ⟨need1, dep1, out1 ++ [x]⟩)) := Lib.hid (by rw [HCS.out, HP1.out]; unfold ip2; rw [if_pos h0])
                have HBN := HBND.out (k + 1) hkl
                rw [HC3.out] at HBN
                obtain ⟨hbn1, hbn2, hbn3⟩ := HBN
                simp only [] at hbn1 hbn2 hbn3
                clear HCS HP1
                have h0' : (r.2 == 0) = true := by simpa using h0
                clear h0 HXC
                go_wp2_with (at_builtin; refine wpList_append_buf rfl (.tmp 63) (.tmp 65) 56 rfl _ _ u0 _ rfl (hB.out.alloc _).rebase _ [x] rfl (Src.slice _ 0 1 [x] (HBY.out wc)) ?c1 (Nat.le_refl _) (hB.out.alloc _).place_lt ?_)
                case c1 => have := HSZ.out; simp; omega
                intro v3 w3 hb3 hg3 hf3 _
                obtain ⟨hS3, hB3, hF3⟩ := ScB.moreN (hS.out.alloc _) (hB.out.alloc _) (by have := HBM.out; have := hF.out.size; simp; omega) HGH.out (by simp) hb3 hg3 hf3
                have hFx3 := Fr.trans (hF.out.alloc _ HBM.out HGH.out) hF3
                have HS3 := Lib.hid hS3
                have HB3 := Lib.hid hB3
                have HF3 := Lib.hid hFx3
                clear hb3 hg3 hf3 hF3 hS3 hB3 hFx3
                go_wp2
                go_roundg (n - (k + 1))
                case measure => omega
                case rel => exact ⟨k + 1, r.1, need1, dep1, out1 ++ [x], hkn, rfl, by go_num, rfl, by first | rfl | go_num, by omega, by omega, by omega, HC3, Lib.hid (by simpa only [List.append_assoc, List.nil_append, List.cons_append] using HB3.out), HS3, HF3, hinv, HBT⟩
              · have h0' : (r.2 == 0) = false := by simpa using h0
                by_cases n123 : x = 123
                · have hxv := n123
                  have hcv : c = 123 := by rw [HXC.out, hxv]; rfl
                  subst hcv
                  have HC3 : Hid (iSt P I l (k + 1) = (r.1, ⟨true, dep1, out1 ++ [x]⟩)) := Lib.hid (by rw [HCS.out, HP1.out]; unfold ip2; rw [if_neg h0, if_pos (by rw [hxv]; simp)])
                  have HBN := HBND.out (k + 1) hkl
                  rw [HC3.out] at HBN
                  obtain ⟨hbn1, hbn2, hbn3⟩ := HBN
                  simp only [] at hbn1 hbn2 hbn3
                  clear HCS HP1
                  clear hxv n123
                  go_wp2_with (at_builtin; refine wpList_append_buf rfl (.tmp 75) (.tmp 77) 56 rfl _ _ u0 _ rfl (hB.out.alloc _).rebase _ [x] rfl (Src.slice _ 0 1 [x] (HBY.out wc)) ?c1 (Nat.le_refl _) (hB.out.alloc _).place_lt ?_)
                  case c1 => have := HSZ.out; simp; omega
                  intro v3 w3 hb3 hg3 hf3 _
                  obtain ⟨hS3, hB3, hF3⟩ := ScB.moreN (hS.out.alloc _) (hB.out.alloc _) (by have := HBM.out; have := hF.out.size; simp; omega) HGH.out (by simp) hb3 hg3 hf3
                  have hFx3 := Fr.trans (hF.out.alloc _ HBM.out HGH.out) hF3
                  have HS3 := Lib.hid hS3
                  have HB3 := Lib.hid hB3
                  have HF3 := Lib.hid hFx3
                  clear hb3 hg3 hf3 hF3 hS3 hB3 hFx3
                  go_wp2
                  go_roundg (n - (k + 1))
                  case measure => omega
                  case rel => exact ⟨k + 1, r.1, true, dep1, out1 ++ [x], hkn, rfl, by go_num, rfl, by first | rfl | go_num, by omega, by omega, by omega, HC3, Lib.hid (by simpa only [List.append_assoc, List.nil_append, List.cons_append] using HB3.out), HS3, HF3, hinv, HBT⟩
                · have b123 : (c == 123) = false := by have q1 : ¬ c = 123 := fun q => n123 (HXI.out 123 (by rw [← HXC.out, q]; rfl)); simpa using q1
                  by_cases n91 : x = 91
                  · have hxv := n91
                    have hcv : c = 91 := by rw [HXC.out, hxv]; rfl
                    subst hcv
                    have HC3 : Hid (iSt P I l (k + 1) = (r.1, ⟨true, dep1, out1 ++ [x]⟩)) := Lib.hid (by rw [HCS.out, HP1.out]; unfold ip2; rw [if_neg h0, if_pos (by rw [hxv]; simp)])
                    have HBN := HBND.out (k + 1) hkl
                    rw [HC3.out] at HBN
                    obtain ⟨hbn1, hbn2, hbn3⟩ := HBN
                    simp only [] at hbn1 hbn2 hbn3
                    clear HCS HP1
                    clear hxv n91
                    go_wp2_with (at_builtin; refine wpList_append_buf rfl (.tmp 75) (.tmp 77) 56 rfl _ _ u0 _ rfl (hB.out.alloc _).rebase _ [x] rfl (Src.slice _ 0 1 [x] (HBY.out wc)) ?c1 (Nat.le_refl _) (hB.out.alloc _).place_lt ?_)
                    case c1 => have := HSZ.out; simp; omega
                    intro v3 w3 hb3 hg3 hf3 _
                    obtain ⟨hS3, hB3, hF3⟩ := ScB.moreN (hS.out.alloc _) (hB.out.alloc _) (by have := HBM.out; have := hF.out.size; simp; omega) HGH.out (by simp) hb3 hg3 hf3
                    have hFx3 := Fr.trans (hF.out.alloc _ HBM.out HGH.out) hF3
                    have HS3 := Lib.hid hS3
                    have HB3 := Lib.hid hB3
                    have HF3 := Lib.hid hFx3
                    clear hb3 hg3 hf3 hF3 hS3 hB3 hFx3
                    go_wp2
                    go_roundg (n - (k + 1))
                    case measure => omega
                    case rel => exact ⟨k + 1, r.1, true, dep1, out1 ++ [x], hkn, rfl, by go_num, rfl, by first | rfl | go_num, by omega, by omega, by omega, HC3, Lib.hid (by simpa only [List.append_assoc, List.nil_append, List.cons_append] using HB3.out), HS3, HF3, hinv, HBT⟩
                  · have b91 : (c == 91) = false := by have q1 : ¬ c = 91 := fun q => n91 (HXI.out 91 (by rw [← HXC.out, q]; rfl)); simpa using q1
                    by_cases n44 : x = 44
                    · have hxv := n44
                      have hcv : c = 44 := by rw [HXC.out, hxv]; rfl
                      subst hcv
                      have HC3 : Hid (iSt P I l (k + 1) = (r.1, ⟨need1, dep1, out1 ++ [x] ++ nlL P I dep1⟩)) := Lib.hid (by rw [HCS.out, HP1.out]; unfold ip2; rw [if_neg h0, if_neg (by rw [hxv]; decide), if_pos hxv])
                      have HBN := HBND.out (k + 1) hkl
                      rw [HC3.out] at HBN
                      obtain ⟨hbn1, hbn2, hbn3⟩ := HBN
                      simp only [] at hbn1 hbn2 hbn3
                      clear HCS HP1
                      clear hxv n44
                      go_wp2_with (at_builtin; refine wpList_append_buf rfl (.tmp 81) (.tmp 83) 56 rfl _ _ u0 _ rfl (hB.out.alloc _).rebase _ [x] rfl (Src.slice _ 0 1 [x] (HBY.out wc)) ?c1 (Nat.le_refl _) (hB.out.alloc _).place_lt ?_)
                      case c1 => have := HSZ.out; simp; omega
                      intro v3 w3 hb3 hg3 hf3 _
                      obtain ⟨hS3, hB3, hF3⟩ := ScB.moreN (hS.out.alloc _) (hB.out.alloc _) (by have := HBM.out; have := hF.out.size; simp; omega) HGH.out (by simp) hb3 hg3 hf3
                      have hFx3 := Fr.trans (hF.out.alloc _ HBM.out HGH.out) hF3
                      have HS3 := Lib.hid hS3
                      have HB3 := Lib.hid hB3
                      have HF3 := Lib.hid hFx3
                      clear hb3 hg3 hf3 hF3 hS3 hB3 hFx3
                      go_wp2_with fail
                      refine (HNL.out _ _ v3 _ (dep1) w3 HB3.out.rebase (by omega) (by omega) (by have := HSZ.out; simp; omega) (Nat.le_refl _) HB3.out.place_lt).mono ?_
                      rintro e w4 ⟨v4, rfl, hb4, hf4⟩
                      obtain ⟨hS4, hB4, hF4⟩ := HS3.out.more HB3.out (Nat.le_trans HBM.out HF3.out.size) HGH.out hb4 hf4.grown hf4
                      have hFx4 := HF3.out.trans hF4
                      have HS4 := Lib.hid hS4
                      have HB4 := Lib.hid hB4
                      have HF4 := Lib.hid hFx4
                      clear hb4 hf4 hF4 hS4 hB4 hFx4
                      go_wp2
                      go_roundg (n - (k + 1))
                      case measure => omega
                      case rel => exact ⟨k + 1, r.1, need1, dep1, out1 ++ [x] ++ nlL P I dep1, hkn, rfl, by go_num, rfl, by first | rfl | go_num, by omega, by omega, by omega, HC3, Lib.hid (by simpa only [List.append_assoc, List.nil_append, List.cons_append] using HB4.out), HS4, HF4, hinv, HBT⟩
                    · have b44 : (c == 44) = false := by have q1 : ¬ c = 44 := fun q => n44 (HXI.out 44 (by rw [← HXC.out, q]; rfl)); simpa using q1
                      by_cases n58 : x = 58
                      · have hxv := n58
                        have hcv : c = 58 := by rw [HXC.out, hxv]; rfl
                        subst hcv
                        have HC3 : Hid (iSt P I l (k + 1) = (r.1, ⟨need1, dep1, out1 ++ [x, 32]⟩)) := Lib.hid (by rw [HCS.out, HP1.out]; unfold ip2; rw [if_neg h0, if_neg (by rw [hxv]; decide), if_neg (by rw [hxv]; decide), if_pos hxv])
                        have HBN := HBND.out (k + 1) hkl
                        rw [HC3.out] at HBN
                        obtain ⟨hbn1, hbn2, hbn3⟩ := HBN
                        simp only [] at hbn1 hbn2 hbn3
                        clear HCS HP1
                        clear hxv n58
                        go_wp2_with (at_builtin; refine wpList_append_buf rfl (.tmp 92) (.tmp 94) 56 rfl _ _ u0 _ rfl (hB.out.alloc _).rebase _ [x, 32] rfl (Src.slice _ 0 2 [x, 32] (HBY2.out wc)) ?c1 (Nat.le_refl _) (hB.out.alloc _).place_lt ?_)
                        case c1 => have := HSZ.out; simp; omega
                        intro v3 w3 hb3 hg3 hf3 _
                        obtain ⟨hS3, hB3, hF3⟩ := ScB.moreN (hS.out.alloc _) (hB.out.alloc _) (by have := HBM.out; have := hF.out.size; simp; omega) HGH.out (by simp) hb3 hg3 hf3
                        have hFx3 := Fr.trans (hF.out.alloc _ HBM.out HGH.out) hF3
                        have HS3 := Lib.hid hS3
                        have HB3 := Lib.hid hB3
                        have HF3 := Lib.hid hFx3
                        clear hb3 hg3 hf3 hF3 hS3 hB3 hFx3
                        go_wp2
                        go_roundg (n - (k + 1))
                        case measure => omega
                        case rel => exact ⟨k + 1, r.1, need1, dep1, out1 ++ [x, 32], hkn, rfl, by go_num, rfl, by first | rfl | go_num, by omega, by omega, by omega, HC3, Lib.hid (by simpa only [List.append_assoc, List.nil_append, List.cons_append] using HB3.out), HS3, HF3, hinv, HBT⟩
                      · have b58 : (c == 58) = false := by have q1 : ¬ c = 58 := fun q => n58 (HXI.out 58 (by rw [← HXC.out, q]; rfl)); simpa using q1
                        by_cases n125 : x = 125
                        · have hxv := n125
                          have hcv : c = 125 := by rw [HXC.out, hxv]; rfl
                          subst hcv
                          cases need1
                          · have HC3 : Hid (iSt P I l (k + 1) = (r.1, ⟨false, (dep1 - 1), out1 ++ nlL P I (dep1 - 1) ++ [x]⟩)) := Lib.hid (by rw [HCS.out, HP1.out]; unfold ip2; rw [if_neg h0, if_neg (by rw [hxv]; decide), if_neg (by rw [hxv]; decide), if_neg (by rw [hxv]; decide), if_pos (by rw [hxv]; simp)]; rfl)
                            have HBN := HBND.out (k + 1) hkl
                            rw [HC3.out] at HBN
                            obtain ⟨hbn1, hbn2, hbn3⟩ := HBN
                            simp only [] at hbn1 hbn2 hbn3
                            clear HCS HP1
                            clear hxv n125
                            have hnb := HNB.out (dep1 - 1) (by omega)
                            go_wp2_with fail
                            refine (HNL.out _ _ u0 _ (dep1 - 1) wc hB.out.rebase (by omega) (by omega) (by have := HSZ.out; simp; omega) (Nat.le_refl _) hB.out.place_lt).mono ?_
                            rintro e w4 ⟨v4, rfl, hb4, hf4⟩
                            obtain ⟨hS4, hB4, hF4⟩ := hS.out.more hB.out (Nat.le_trans HBM.out hF.out.size) HGH.out hb4 hf4.grown hf4
                            have hFx4 := hF.out.trans hF4
                            have HS4 := Lib.hid hS4
                            have HB4 := Lib.hid hB4
                            have HF4 := Lib.hid hFx4
                            clear hb4 hf4 hF4 hS4 hB4 hFx4
                            go_wp2_with (at_builtin; refine wpList_append_buf rfl (.tmp 107) (.tmp 109) 56 rfl _ _ v4 _ rfl (HB4.out.alloc _).rebase _ [x] rfl (Src.slice _ 0 1 [x] (HBY.out w4)) ?c1 (Nat.le_refl _) (HB4.out.alloc _).place_lt ?_)
                            case c1 => have := HSZ.out; simp; omega
                            intro v3 w3 hb3 hg3 hf3 _
                            obtain ⟨hS3, hB3, hF3⟩ := ScB.moreN (HS4.out.alloc _) (HB4.out.alloc _) (by have := HBM.out; have := HF4.out.size; simp; omega) HGH.out (by simp) hb3 hg3 hf3
                            have hFx3 := Fr.trans (HF4.out.alloc _ HBM.out HGH.out) hF3
                            have HS3 := Lib.hid hS3
                            have HB3 := Lib.hid hB3
                            have HF3 := Lib.hid hFx3
                            clear hb3 hg3 hf3 hF3 hS3 hB3 hFx3
                            go_wp2
                            go_roundg (n - (k + 1))
                            case measure => omega
                            case rel => exact ⟨k + 1, r.1, false, (dep1 - 1), out1 ++ nlL P I (dep1 - 1) ++ [x], hkn, rfl, by go_num, rfl, by first | rfl | go_num, by omega, by omega, by omega, HC3, Lib.hid (by simpa only [List.append_assoc, List.nil_append, List.cons_append] using HB3.out), HS3, HF3, hinv, HBT⟩
                          · have HC3 : Hid (iSt P I l (k + 1) = (r.1, ⟨false, dep1, out1 ++ [x]⟩)) := Lib.hid (by rw [HCS.out, HP1.out]; unfold ip2; rw [if_neg h0, if_neg (by rw [hxv]; decide), if_neg (by rw [hxv]; decide), if_neg (by rw [hxv]; decide), if_pos (by rw [hxv]; simp)]; rfl)
                            have HBN := HBND.out (k + 1) hkl
                            rw [HC3.out] at HBN
                            obtain ⟨hbn1, hbn2, hbn3⟩ := HBN
                            simp only [] at hbn1 hbn2 hbn3
                            clear HCS HP1
                            clear hxv n125
                            go_wp2_with (at_builtin; refine wpList_append_buf rfl (.tmp 107) (.tmp 109) 56 rfl _ _ u0 _ rfl (hB.out.alloc _).rebase _ [x] rfl (Src.slice _ 0 1 [x] (HBY.out wc)) ?c1 (Nat.le_refl _) (hB.out.alloc _).place_lt ?_)
                            case c1 => have := HSZ.out; simp; omega
                            intro v3 w3 hb3 hg3 hf3 _
                            obtain ⟨hS3, hB3, hF3⟩ := ScB.moreN (hS.out.alloc _) (hB.out.alloc _) (by have := HBM.out; have := hF.out.size; simp; omega) HGH.out (by simp) hb3 hg3 hf3
                            have hFx3 := Fr.trans (hF.out.alloc _ HBM.out HGH.out) hF3
                            have HS3 := Lib.hid hS3
                            have HB3 := Lib.hid hB3
                            have HF3 := Lib.hid hFx3
                            clear hb3 hg3 hf3 hF3 hS3 hB3 hFx3
                            go_wp2
                            go_roundg (n - (k + 1))
                            case measure => omega
                            case rel => exact ⟨k + 1, r.1, false, dep1, out1 ++ [x], hkn, rfl, by go_num, rfl, by first | rfl | go_num, by omega, by omega, by omega, HC3, Lib.hid (by simpa only [List.append_assoc, List.nil_append, List.cons_append] using HB3.out), HS3, HF3, hinv, HBT⟩
                        · have b125 : (c == 125) = false := by have q1 : ¬ c = 125 := fun q => n125 (HXI.out 125 (by rw [← HXC.out, q]; rfl)); simpa using q1
                          by_cases n93 : x = 93
                          · have hxv := n93
                            have hcv : c = 93 := by rw [HXC.out, hxv]; rfl
                            subst hcv
                            cases need1
                            · have HC3 : Hid (iSt P I l (k + 1) = (r.1, ⟨false, (dep1 - 1), out1 ++ nlL P I (dep1 - 1) ++ [x]⟩)) := Lib.hid (by rw [HCS.out, HP1.out]; unfold ip2; rw [if_neg h0, if_neg (by rw [hxv]; decide), if_neg (by rw [hxv]; decide), if_neg (by rw [hxv]; decide), if_pos (by rw [hxv]; simp)]; rfl)
                              have HBN := HBND.out (k + 1) hkl
                              rw [HC3.out] at HBN
                              obtain ⟨hbn1, hbn2, hbn3⟩ := HBN
                              simp only [] at hbn1 hbn2 hbn3
                              clear HCS HP1
                              clear hxv n93
                              have hnb := HNB.out (dep1 - 1) (by omega)
                              go_wp2_with fail
                              refine (HNL.out _ _ u0 _ (dep1 - 1) wc hB.out.rebase (by omega) (by omega) (by have := HSZ.out; simp; omega) (Nat.le_refl _) hB.out.place_lt).mono ?_
                              rintro e w4 ⟨v4, rfl, hb4, hf4⟩
                              obtain ⟨hS4, hB4, hF4⟩ := hS.out.more hB.out (Nat.le_trans HBM.out hF.out.size) HGH.out hb4 hf4.grown hf4
                              have hFx4 := hF.out.trans hF4
                              have HS4 := Lib.hid hS4
                              have HB4 := Lib.hid hB4
                              have HF4 := Lib.hid hFx4
                              clear hb4 hf4 hF4 hS4 hB4 hFx4
                              go_wp2_with (at_builtin; refine wpList_append_buf rfl (.tmp 107) (.tmp 109) 56 rfl _ _ v4 _ rfl (HB4.out.alloc _).rebase _ [x] rfl (Src.slice _ 0 1 [x] (HBY.out w4)) ?c1 (Nat.le_refl _) (HB4.out.alloc _).place_lt ?_)
                              case c1 => have := HSZ.out; simp; omega
                              intro v3 w3 hb3 hg3 hf3 _
                              obtain ⟨hS3, hB3, hF3⟩ := ScB.moreN (HS4.out.alloc _) (HB4.out.alloc _) (by have := HBM.out; have := HF4.out.size; simp; omega) HGH.out (by simp) hb3 hg3 hf3
                              have hFx3 := Fr.trans (HF4.out.alloc _ HBM.out HGH.out) hF3
                              have HS3 := Lib.hid hS3
                              have HB3 := Lib.hid hB3
                              have HF3 := Lib.hid hFx3
                              clear hb3 hg3 hf3 hF3 hS3 hB3 hFx3
                              go_wp2
                              go_roundg (n - (k + 1))
                              case measure => omega
                              case rel => exact ⟨k + 1, r.1, false, (dep1 - 1), out1 ++ nlL P I (dep1 - 1) ++ [x], hkn, rfl, by go_num, rfl, by first | rfl | go_num, by omega, by omega, by omega, HC3, Lib.hid (by simpa only [List.append_assoc, List.nil_append, List.cons_append] using HB3.out), HS3, HF3, hinv, HBT⟩
                            · have HC3 : Hid (iSt P I l (k + 1) = (r.1, ⟨false, dep1, out1 ++ [x]⟩)) := Lib.hid (by rw [HCS.out, HP1.out]; unfold ip2; rw [if_neg h0, if_neg (by rw [hxv]; decide), if_neg (by rw [hxv]; decide), if_neg (by rw [hxv]; decide), if_pos (by rw [hxv]; simp)]; rfl)
                              have HBN := HBND.out (k + 1) hkl
                              rw [HC3.out] at HBN
                              obtain ⟨hbn1, hbn2, hbn3⟩ := HBN
                              simp only [] at hbn1 hbn2 hbn3
                              clear HCS HP1
                              clear hxv n93
                              go_wp2_with (at_builtin; refine wpList_append_buf rfl (.tmp 107) (.tmp 109) 56 rfl _ _ u0 _ rfl (hB.out.alloc _).rebase _ [x] rfl (Src.slice _ 0 1 [x] (HBY.out wc)) ?c1 (Nat.le_refl _) (hB.out.alloc _).place_lt ?_)
                              case c1 => have := HSZ.out; simp; omega
                              intro v3 w3 hb3 hg3 hf3 _
                              obtain ⟨hS3, hB3, hF3⟩ := ScB.moreN (hS.out.alloc _) (hB.out.alloc _) (by have := HBM.out; have := hF.out.size; simp; omega) HGH.out (by simp) hb3 hg3 hf3
                              have hFx3 := Fr.trans (hF.out.alloc _ HBM.out HGH.out) hF3
                              have HS3 := Lib.hid hS3
                              have HB3 := Lib.hid hB3
                              have HF3 := Lib.hid hFx3
                              clear hb3 hg3 hf3 hF3 hS3 hB3 hFx3
                              go_wp2
                              go_roundg (n - (k + 1))
                              case measure => omega
                              case rel => exact ⟨k + 1, r.1, false, dep1, out1 ++ [x], hkn, rfl, by go_num, rfl, by first | rfl | go_num, by omega, by omega, by omega, HC3, Lib.hid (by simpa only [List.append_assoc, List.nil_append, List.cons_append] using HB3.out), HS3, HF3, hinv, HBT⟩
                          · have b93 : (c == 93) = false := by have q1 : ¬ c = 93 := fun q => n93 (HXI.out 93 (by rw [← HXC.out, q]; rfl)); simpa using q1
                            have HC3 : Hid (iSt P I l (k + 1) = (r.1, ⟨need1, dep1, out1 ++ [x]⟩)) := Lib.hid (by rw [HCS.out, HP1.out]; unfold ip2; rw [if_neg h0, if_neg (fun q => by rcases q with q | q; exact n123 q; exact n91 q), if_neg n44, if_neg n58, if_neg (fun q => by rcases q with q | q; exact n125 q; exact n93 q)])
                            have HBN := HBND.out (k + 1) hkl
                            rw [HC3.out] at HBN
                            obtain ⟨hbn1, hbn2, hbn3⟩ := HBN
                            simp only [] at hbn1 hbn2 hbn3
                            clear HCS HP1
                            clear n123 n91 n44 n58 n125 n93
                            go_wp2_with (at_builtin; refine wpList_append_buf rfl (.tmp 68) (.tmp 70) 56 rfl _ _ u0 _ rfl (hB.out.alloc _).rebase _ [x] rfl (Src.slice _ 0 1 [x] (HBY.out wc)) ?c1 (Nat.le_refl _) (hB.out.alloc _).place_lt ?_)
                            case c1 => have := HSZ.out; simp; omega
                            intro v3 w3 hb3 hg3 hf3 _
                            obtain ⟨hS3, hB3, hF3⟩ := ScB.moreN (hS.out.alloc _) (hB.out.alloc _) (by have := HBM.out; have := hF.out.size; simp; omega) HGH.out (by simp) hb3 hg3 hf3
                            have hFx3 := Fr.trans (hF.out.alloc _ HBM.out HGH.out) hF3
                            have HS3 := Lib.hid hS3
                            have HB3 := Lib.hid hB3
                            have HF3 := Lib.hid hFx3
                            clear hb3 hg3 hf3 hF3 hS3 hB3 hFx3
                            go_wp2
                            go_roundg (n - (k + 1))
                            case measure => omega
                            case rel => exact ⟨k + 1, r.1, need1, dep1, out1 ++ [x], hkn, rfl, by go_num, rfl, by first | rfl | go_num, by omega, by omega, by omega, HC3, Lib.hid (by simpa only [List.append_assoc, List.nil_append, List.cons_append] using HB3.out), HS3, HF3, hinv, HBT⟩
    · obtain rfl : k = n := by omega
      have hv : eofM s = b := by rw [← hM.out, goM_end (by rw [← HN.out]; exact hkn)]
      have HE := Lib.hid (eofB S (S + 1) k s u0 wr hS.out hI.out (by omega))
      rw [hv] at HE
      clear hI hM hv hkn
      cases b
      · have hsh : (u0 = .slice none 0 0 ∧ n0 = 0) ∨ ∃ g' o' m' c', u0 = .slice (some ⟨g', o', none⟩) m' c' ∧ n0 ≤ m' ∧ m' ≤ c' ∧ Hid (BytV wr (.slice (some ⟨g', o', none⟩) n0 c') l0) := by
          rcases hB.out with ⟨q1, q2⟩ | ⟨g', o', c', cur, fz, q1, _, hh, hc', _, _, _, hbb⟩
          · exact .inl ⟨q1, by rw [HN0.out, (List.append_eq_nil_iff.1 q2).1]; rfl⟩
          · refine .inr ⟨g', o', _, c', q1, by rw [HN0.out]; simp, hc', Lib.hid (.inr ⟨g', o', c', by rw [HN0.out], ?_, fun j hj => ?_, (Array.getElem?_eq_some_iff.1 hh).1⟩)⟩
            · simp at hc'; omega
            · rw [cell_of_row wr g' (o' + j) cur _ fz hh, hbb j (by simp; omega), atL_app_left _ _ j hj]
        rcases hsh with ⟨rfl, hz⟩ | ⟨g', o', m', c', rfl, hm1, hm2, hby⟩
        · subst hz
          have hl0 : l0 = [] := List.eq_nil_of_length_eq_zero HN0.out.symm
          subst hl0
          go_wp2_with fail
          refine HE.out.mono ?_
          rintro e w2 ⟨s', rfl, h2, g2, her, k2⟩
          obtain ⟨x, c3, _, e2⟩ := h2.sc.c3
          obtain ⟨p, rfl, hp, hs⟩ := e2 (her rfl)
          have H2 := Lib.hid h2.sc
          have G2 := Lib.hid (hF.out.trans (g2.fr hbS (Nat.lt_succ_self S) HGH.out))
          have P2 := Lib.hid (And.intro hp hs)
          clear h2 g2 her e2 k2 hF hB HE hp hs
          go_wp2
          refine wp_region_noPanic ?_
          go_quiet (fail)
          refine NoPanic.normal ?_
          go_wp2
          refine leaves_cons (f := 73) (args := #[.pointer (some ⟨S, 0, none⟩)]) (by simp) (by simp [go_sem]) ?_
          refine (freeX S (S + 1) s' _ _ (scDrew H2.out _)).mono ?_
          rintro e u' w3 ⟨rfl, rfl, g3, k3⟩
          have hF3 := (frDrew G2.out _).trans (g3.fr hbS (Nat.lt_succ_self S) HGH.out)
          have hp3 := (synDrew P2.out.2 _).same (k3 p (by have := P2.out.1; omega))
          simp [Leaves, settle, results, Tryd.results57, go_sem]
          exact ⟨_, _, rfl, (fun z => by cases z), fun _ => ⟨p, rfl, hp3, .inl ⟨rfl, rfl⟩⟩, hF3⟩
        · have hnS : ¬ g' = S := (hS.out.ap g' rfl).2.1
          go_wp2_with fail
          refine HE.out.mono ?_
          rintro e w2 ⟨s', rfl, h2, g2, her, k2⟩
          obtain ⟨x, c3, _, e2⟩ := h2.sc.c3
          obtain ⟨p, rfl, hp, hs⟩ := e2 (her rfl)
          have H2 := Lib.hid h2.sc
          have G2 := Lib.hid (hF.out.trans (g2.fr hbS (Nat.lt_succ_self S) HGH.out))
          have P2 := Lib.hid (And.intro hp hs)
          have BV2 : Hid (BytV w2 (.slice (some ⟨g', o', none⟩) n0 c') l0) := Lib.hid (hby.out.kept k2 g2.size)
          have hcc : n0 ≤ c' := by omega
          clear h2 g2 her e2 k2 hF hB HE hp hs hby
          go_wp2
          refine wp_region_noPanic ?_
          go_quiet (fail)
          refine NoPanic.normal ?_
          go_wp2
          refine leaves_cons (f := 73) (args := #[.pointer (some ⟨S, 0, none⟩)]) (by simp) (by simp [go_sem]) ?_
          refine (freeX S (S + 1) s' _ _ (scDrew H2.out _)).mono ?_
          rintro e u' w3 ⟨rfl, rfl, g3, k3⟩
          have hF3 := (frDrew G2.out _).trans (g3.fr hbS (Nat.lt_succ_self S) HGH.out)
          have hp3 := (synDrew P2.out.2 _).same (k3 p (by have := P2.out.1; omega))
          have hb3 := (bvDrew BV2.out _).kept (fun q hq => k3 q (by obtain rfl : g' = q := Option.some.inj hq; exact hnS)) g3.size
          simp [Leaves, settle, results, Tryd.results57, go_sem]
          exact ⟨_, _, rfl, (fun z => by cases z), fun _ => ⟨p, rfl, hp3, hb3⟩, hF3⟩
      · have hfin : Hid (Q = out) := Lib.hid (by rw [HQ.out]; unfold indL; rw [← HN.out, hC.out])
        go_wp2_with fail
        refine HE.out.mono ?_
        rintro e w2 ⟨s', rfl, h2, g2, her, k2⟩
        have HA : Hid (∀ q, u0.ownBlock = some q → q ≠ S) := Lib.hid fun q hq => (h2.ap q hq).2.1
        have H2 := Lib.hid h2.sc
        have HF := Lib.hid (hF.out.trans (g2.fr hbS (Nat.lt_succ_self S) HGH.out))
        have HB : Hid (Buf w2 base G u0 (l0 ++ Q)) := Lib.hid (by rw [hfin.out]; exact hB.out.kept k2)
        clear h2 g2 her k2 hF hB HE
        go_wp2
        refine leaves_cons (f := 73) (args := #[.pointer (some ⟨S, 0, none⟩)]) (by simp) (by simp [go_sem]) ?_
        refine (freeX S (S + 1) s' _ _ H2.out).mono ?_
        rintro e u' w3 ⟨rfl, rfl, g3, k3⟩
        have hF3 := HF.out.trans (g3.fr hbS (Nat.lt_succ_self S) HGH.out)
        have hb3 := HB.out.kept (fun q hq => k3 q (HA.out q hq))
        simp [Leaves, settle, results, Tryd.results57, go_sem]
        exact ⟨_, _, rfl, (fun _ => ⟨rfl, hb3⟩), (fun z => by cases z), hF3⟩
end Go.Proofs.YtklncgmfbflooaaDoor
