/- The reference's reader: a name and its colon, walked (names may come twice). -/
import Derived.Test.YtklncgmfbflooaaDoorRdNode
namespace Go.Proofs.YtklncgmfbflooaaDoor
open Go.RowKit
set_option maxRecDepth 100000 in
set_option maxHeartbeats 4000000 in
theorem nameS (R N B : Nat) (s : ByteArray) (k0 : Nat) (f : Int) (op : Bool) (w : World) (h : RdAt w R s k0 true true f op) (hN : NodeAt w N B k0) (hRB : R < B) (hNR : ¬ N = R) (hs : s.size ≤ 2147483647) (hk0 : k0 ≤ s.size) :
    Calls Tryd.prog 75 #[.pointer (some ⟨R, 0, none⟩), .pointer (some ⟨N, 0, none⟩)] w (RdN (¬ nameN s.data.toList k0 = 0) (nameN s.data.toList k0) R N B s k0 f op w) := by
  have hs' : s.size ≤ 140737488355328 := by omega
  have HSP : Hid (∀ k W, RdAt W R s k true true f op → k ≤ s.size → Calls Tryd.prog 41 #[.pointer (some ⟨R, 0, none⟩)] W (SpacePost R s (spN s.data.toList k) true true f op W)) := Lib.hid fun k W a b => spaceS R s k true true f op W a hs' b
  have HND : Hid (∀ k W, RdAt W R s k true true f op → k ≤ s.size → Calls Tryd.prog 65 #[.pointer (some ⟨R, 0, none⟩), .int .u8 58, .int .u8 58] W (Rd (seeP s.data.toList k = 58) (k + 1) R s k true true f op W)) := Lib.hid fun k W a b => need1 R s k true true f op 58 (by decide) W a hs' b
  have HFL : Hid (∀ W, RdAt W R s k0 true true f op → Calls Tryd.prog 42 #[.pointer (some ⟨R, 0, none⟩), .int .i64 3] W (NoPost R s k0 true true op W)) := Lib.hid fun W a => failNo R s k0 true true f op 3 (by decide) W a hk0
  have HQ : Hid (∀ W, RdAt W R s k0 true true f op → Calls Tryd.prog 77 #[.pointer (some ⟨R, 0, none⟩)] W (Rd (¬ strQ true s.data.toList k0 = 0) (strQ true s.data.toList k0) R s k0 true true f op W)) := Lib.hid fun W a => quotedS R s k0 true true f op W a hs' hk0
  have HSR : Hid (∀ k, k ≤ s.size → k ≤ spN s.data.toList k ∧ spN s.data.toList k ≤ s.size) := Lib.hid fun k q => by have := spN_range (l := s.data.toList) (k := k) (by rw [size_list]; exact q); rwa [size_list] at this
  have HQR : Hid (¬ strQ true s.data.toList k0 = 0 → k0 < strQ true s.data.toList k0 ∧ strQ true s.data.toList k0 < s.size) := Lib.hid fun q => by have := strQ_range q; rw [size_list] at this; exact ⟨this.2.1, this.2.2.1⟩
  have HV : Hid (nameN s.data.toList k0 = if strQ true s.data.toList k0 = 0 then 0 else if seeP s.data.toList (spN s.data.toList (strQ true s.data.toList k0 + 1)) = 58 then spN s.data.toList (strQ true s.data.toList k0 + 1) + 1 else 0) := rfl
  have HQ0 : Hid (¬ seeP s.data.toList k0 = 34 → strQ true s.data.toList k0 = 0) := Lib.hid fun q => by unfold strQ; rw [if_neg q]
  have HSEE := Lib.hid (see R s k0 true true f op w h hs' hk0)
  generalize nameN s.data.toList k0 = v at HV ⊢
  generalize strQ true s.data.toList k0 = q0 at HV HQ HQR HQ0
  have HN0 := Lib.hid hN
  have hBw := hN.le
  have hNB := hN.lt
  clear h hN hs'
  go_enter Tryd.func75, Tryd.ntmps75
  go_wp2_with fail
  refine HSEE.out.mono ?_
  rintro e w1 ⟨rfl, h1, g1⟩
  have H1 := Lib.hid h1
  have HN1 := Lib.hid (HN0.out.kept g1 hRB hNR)
  have G1 := Lib.hid ((Gr2.refl B w R N).reader hBw g1)
  have c1 := h1.c1
  clear h1 g1 HN0 HSEE
  generalize seeP s.data.toList k0 = c at HQ0
  by_cases q34 : c = 34
  · subst q34
    clear HQ0 HFL
    go_wp2_with fail
    refine (HQ.out _ H1.out).mono ?_
    rintro e w2 (⟨ok, rfl, h2, g2⟩ | ⟨ok, rfl, ⟨k2, f2, le2, hk2, n2, h2⟩, g2⟩)
    · have H2 := Lib.hid h2
      have HN2 := Lib.hid (HN1.out.kept g2 hRB hNR)
      have G2 := Lib.hid (G1.out.reader HN1.out.le g2)
      have hr := HQR.out ok
      have HV2 : Hid (v = if seeP s.data.toList (spN s.data.toList (q0 + 1)) = 58 then spN s.data.toList (q0 + 1) + 1 else 0) := Lib.hid (by rw [HV.out, if_neg ok])
      clear h2 g2 ok HQR HV HQ H1 HN1 G1 c1
      go_wp2_with fail
      go_cut [4] (fun z wx => z = .bool false ∧ Hid (RdAt wx R s q0 true true f op) ∧ Hid (NodeAt wx N B (q0 + 1)) ∧ Hid (Gr2 B w wx R N))
      case first =>
        obtain ⟨⟨c0, t0, vn, vk, nn, nk, xs, ys, e0, e1, e2, e3, on, okk, ln, lk, ap⟩, fz, lt, le⟩ := HN2.out
        obtain ⟨i0, hi, hz0, hz1, hz2⟩ := info_parts strInfo
        obtain ⟨pn, cn, rfl⟩ := ownsRow_form on
        have HON := Lib.hid on
        have HPE : Hid (∀ (g cap : Nat) (w5 : World), w5.ownsRow B 9 1 (.slice (some ⟨g, 0, none⟩) (nn + 1) cap) (nn + 1) (xs ++ [.string (s.extract k0 (q0 + 1))]) → w2.grownBy w5 (Value.slice pn nn cn).ownBlock → ((Value.slice pn nn cn).ownBlock = some g ∨ w2.heap.size ≤ g) → NodeAt (w5.setCell ⟨N, 2, none⟩ (.slice (some ⟨g, 0, none⟩) (nn + 1) cap)) N B (q0 + 1)) :=
          Lib.hid fun g cap w5 o5 hg hat => names_of e0 e1 e2 e3 on okk hg o5 (by omega) (by omega) ap hat fz lt le
        have HFZ : Hid (∀ w5 : World, w2.grownBy w5 (Value.slice pn nn cn).ownBlock → w5.cell? ⟨N, 2, none⟩ = some (.slice pn nn cn) ∧ w5.frozen? ⟨N, 2, none⟩ = false) := Lib.hid fun w5 hg => by
          have hb : w5.heap[N]? = w2.heap[N]? := hg.block N (by omega) (fun e => by have := (on.lt N e.symm).1; omega)
          exact ⟨(World.cell?_of_block (a := ⟨N, 2, none⟩) hb).trans e2, (World.frozen?_of_block (a := ⟨N, 2, none⟩) hb).trans (fz 2)⟩
        have HRW : Hid (∀ g, (Value.slice pn nn cn).ownBlock = some g → B ≤ g) := Lib.hid fun g e => (on.lt g e).1
        have al : ∀ a v, w2.cell? a = some v → (w2.alloc (Obj.cells #[.string (s.extract k0 (q0 + 1))] 9)).cell? a = some v := fun a v h => (World.grownBy_alloc w2 _ none).cell h (by simp)
        have r0 := H2.out.c0
        have r1 := H2.out.c1
        have an := al _ _ e2
        have a0 := al _ _ r0
        have a1 := al _ _ r1
        have hrR : Hid ((Value.slice pn nn cn).ownBlock ≠ some R) := Lib.hid fun e => by have := HRW.out R e; omega
        clear on okk ap fz e0 e1 e3 HN2 al
        have b0 : (k0 : Int) ≤ (q0 : Int) + 1 := by omega
        have b1 : (q0 : Int) + 1 ≤ (s.size : Int) := by omega
        have b2 : IntKind.i64.wrap ((q0 : Int) + 1) = (q0 : Int) + 1 := by rw [IntKind.wrap_i64]; omega
        have b3 : (0 : Int) ≤ (q0 : Int) + 1 := by omega
        have b4 : ((q0 : Int) + 1).toNat = q0 + 1 := by omega
        go_region_law ((refine step_append_lies _ (by rfl) _ _ _ (by rfl) B 9 i0 _ 1 16 Tryd.underlying45 hi hz0 hz1 hz2 rfl (by omega) (.slice pn nn cn) nn xs (by rfl) (HON.out.drew.alloc _) ⟨w2.heap.size, 0, none⟩ 1 1 [.string (s.extract k0 (q0 + 1))] (by rfl) (by rfl) (World.news_of_block (cs := #[.string (s.extract k0 (q0 + 1))]) (t := 9) (fr := (0, 0)) (heap_alloc_new _ _)) (by simp [Value.oneCell']) (by omega) (by simp [maxLen]; omega) (by omega) (by simp; omega) (w2.heap.size + 1) (by simp) ?_; intro g cap w5 hown5 hgrow0 hat hlt; have hgrow := Lib.hid (grow_trans (grow_drew w2 _ _) hgrow0); obtain ⟨n3, nf3⟩ := HFZ.out w5 hgrow.out; have HP5 := Lib.hid (HPE.out g cap w5 hown5 hgrow.out (hat.imp id (by omega))); clear hgrow0 hown5 hat))
        all_goals (
          go_wp2
          go_meet
          have qR := (H2.out.grew hgrow.out hrR.out).far ⟨N, 2, none⟩ hNR (.slice (some ⟨g, 0, none⟩) (nn + 1) cap)
          have qG := (G2.out.row le hgrow.out (fun g e => HRW.out g e)).set (.slice (some ⟨g, 0, none⟩) (nn + 1) cap) (q := ⟨N, 2, none⟩) (.inr (.inl rfl))
          exact ⟨rfl, Lib.hid qR, HP5, Lib.hid qG⟩)
      case rest =>
        clear H2 HN2 G2
        obtain ⟨rfl, H2, HN2, G2⟩ := hcut
        have c1 := H2.out.c1
        have c2 := H2.out.c2
        have f1 := H2.out.fz 1
        have HI := Lib.hid H2.out.inc
        have HNI := Lib.hid (HN2.out.reader hRB hNR 1 (.int .i64 ((q0 : Int) + 1)))
        have GI := Lib.hid (G2.out.set (.int .i64 ((q0 : Int) + 1)) (q := ⟨R, 1, none⟩) (.inl rfl))
        have hr2 := HSR.out (q0 + 1) hr.2
        clear H2 HN2 G2
        go_wp2_with fail
        refine (HSP.out (q0 + 1) _ HI.out hr.2).mono ?_
        rintro e w4 ⟨rfl, h4, g4⟩
        have H4 := Lib.hid h4
        have HN4 := Lib.hid (HNI.out.kept g4 hRB hNR)
        have G4 := Lib.hid (GI.out.reader HNI.out.le g4)
        clear h4 g4 HI HNI GI
        generalize spN s.data.toList (q0 + 1) = k4 at H4 HV2 hr2
        go_wp2_with fail
        refine (HND.out k4 _ H4.out hr2.2).mono ?_
        rintro e w5 (⟨ok, rfl, h5, g5⟩ | ⟨ok, rfl, ⟨k5, f5, le5, hk5, n5, h5⟩, g5⟩)
        · have H5 := Lib.hid h5
          have HN5 := Lib.hid ((HN4.out.kept g5 hRB hNR).mono (show q0 + 1 ≤ k4 + 1 by omega))
          have G5 := Lib.hid (G4.out.reader HN4.out.le g5)
          have hv : v = k4 + 1 := by rw [HV2.out, if_pos ok]
          have HV := Lib.hid hv
          clear h5 g5 ok hv HV2
          go_wp2
          go_ret
          exact ⟨.inl ⟨by rw [HV.out]; omega, rfl, by rw [HV.out]; exact H5.out, by rw [HV.out]; exact HN5.out⟩, G5.out⟩
        · have H5 := Lib.hid h5
          have HN5 := Lib.hid ((HN4.out.kept g5 hRB hNR).mono (show q0 + 1 ≤ s.size + 1 by omega))
          have G5 := Lib.hid (G4.out.reader HN4.out.le g5)
          have hv : v = 0 := by rw [HV2.out, if_neg ok]
          have HV := Lib.hid hv
          clear h5 g5 ok hv HV2
          go_wp2
          go_ret
          exact ⟨.inr ⟨fun z => z HV.out, rfl, k5, f5, by omega, hk5, n5, H5.out, HN5.out⟩, G5.out⟩
    · have H2 := Lib.hid h2
      have HN2 := Lib.hid ((HN1.out.kept g2 hRB hNR).mono (show k0 ≤ s.size + 1 by omega))
      have G2 := Lib.hid (G1.out.reader HN1.out.le g2)
      have hv : v = 0 := by rw [HV.out, if_pos (Classical.byContradiction ok)]
      have HV2 := Lib.hid hv
      clear h2 g2 ok hv HV HQ H1 HN1 G1 c1 HQR
      go_wp2
      go_ret
      exact ⟨.inr ⟨fun z => z HV2.out, rfl, k2, f2, by omega, hk2, n2, H2.out, HN2.out⟩, G2.out⟩
  · have hz := HQ0.out q34
    have hv : v = 0 := by rw [HV.out, if_pos hz]
    have HV2 := Lib.hid hv
    have bq : (c == 34) = false := by simpa using q34
    have HQN : Hid (∀ W, RdAt W R s k0 true true f op → Calls Tryd.prog 77 #[.pointer (some ⟨R, 0, none⟩)] W (NoPost R s k0 true true op W)) := Lib.hid fun W a => (HQ.out W a).mono fun _ _ p => p.elim (fun x => absurd hz x.1) (fun x => x.2)
    clear hv HV hz HQ0 HQ HQR HSP HND HSR q34
    go_wp2_with fail
    all_goals (
      first
        | refine (HFL.out _ H1.out).mono ?_
        | refine (HQN.out _ H1.out).mono ?_
      rintro e w2 ⟨rfl, ⟨k2, f2, le2, hk2, n2, h2⟩, g2⟩
      have H2 := Lib.hid h2
      have HN2 := Lib.hid ((HN1.out.kept g2 hRB hNR).mono (show k0 ≤ s.size + 1 by omega))
      have G2 := Lib.hid (G1.out.reader HN1.out.le g2)
      clear h2 g2
      go_wp2
      go_ret
      exact ⟨.inr ⟨fun z => z HV2.out, rfl, k2, f2, by omega, hk2, n2, H2.out, HN2.out⟩, G2.out⟩)
end Go.Proofs.YtklncgmfbflooaaDoor
