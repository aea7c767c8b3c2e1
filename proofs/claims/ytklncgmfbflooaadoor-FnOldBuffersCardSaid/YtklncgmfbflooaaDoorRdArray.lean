/- The reference's reader: an array behind its bracket, walked. -/
import Derived.Test.YtklncgmfbflooaaDoorRdNode
namespace Go.Proofs.YtklncgmfbflooaaDoor
open Go.RowKit
set_option maxRecDepth 100000 in
set_option maxHeartbeats 4000000 in
theorem arrayS (n R N B : Nat) (s : ByteArray) (k0 : Nat) (f : Int) (op : Bool) (w : World) (h : RdAt w R s k0 true true f op) (hN : NodeAt w N B k0) (hRB : R < B) (hNR : ¬ N = R) (hs : s.size ≤ 2147483647) (hk0 : k0 ≤ s.size) (hn : s.size ≤ k0 + n)
    (HVAL : Hid (∀ k W, RdAt W R s k true true f op → k ≤ s.size → s.size ≤ k + n → Calls Tryd.prog 40 #[.pointer (some ⟨R, 0, none⟩)] W (VP (pV s.data.toList k) R s k f op W))) :
    Calls Tryd.prog 60 #[.pointer (some ⟨R, 0, none⟩), .pointer (some ⟨N, 0, none⟩)] w (RdN (¬ openN s.data.toList 93 (pA s.data.toList) k0 = 0) (openN s.data.toList 93 (pA s.data.toList) k0) R N B s k0 f op w) := by
  have hs' : s.size ≤ 140737488355328 := by omega
  have HSP : Hid (∀ k W, RdAt W R s k true true f op → k ≤ s.size → Calls Tryd.prog 41 #[.pointer (some ⟨R, 0, none⟩)] W (SpacePost R s (spN s.data.toList k) true true f op W)) := Lib.hid fun k W a b => spaceS R s k true true f op W a hs' b
  have HSEE : Hid (∀ k W, RdAt W R s k true true f op → k ≤ s.size → Calls Tryd.prog 58 #[.pointer (some ⟨R, 0, none⟩)] W (ValPost (.int .u8 (seeP s.data.toList k)) R s k true true f op W)) := Lib.hid fun k W a b => see R s k true true f op W a hs' b
  have HND : Hid (∀ k W, RdAt W R s k true true f op → k ≤ s.size → Calls Tryd.prog 65 #[.pointer (some ⟨R, 0, none⟩), .int .u8 44, .int .u8 44] W (Rd (seeP s.data.toList k = 44) (k + 1) R s k true true f op W)) := Lib.hid fun k W a b => need1 R s k true true f op 44 (by decide) W a hs' b
  have HLT : Hid (∀ k c, seeP s.data.toList k = c → ¬ c = 0 → k < s.size) := Lib.hid fun k c a b => (seeP_lt a b).1
  have HSR : Hid (∀ k, k ≤ s.size → k ≤ spN s.data.toList k ∧ spN s.data.toList k ≤ s.size) := Lib.hid fun k q => by have := spN_range (l := s.data.toList) (k := k) (by rw [size_list]; exact q); rwa [size_list] at this
  have HAE : Hid (∀ k, k ≤ s.size → pA s.data.toList k = nextN s.data.toList 93 (pA s.data.toList) (pV s.data.toList k)) := Lib.hid fun k q => pA_eq (by rw [size_list]; exact q)
  have HVR : Hid (∀ k, k ≤ s.size → ¬ pV s.data.toList k = 0 → k < pV s.data.toList k ∧ pV s.data.toList k ≤ s.size) := Lib.hid fun k q r => by have := pV_range (l := s.data.toList) (k := k) (by rw [size_list]; exact q) r; rwa [size_list] at this
  have hV : Hid (openN s.data.toList 93 (pA s.data.toList) k0 = if seeP s.data.toList (spN s.data.toList k0) = 93 then spN s.data.toList k0 + 1 else pA s.data.toList (spN s.data.toList k0)) := rfl
  generalize openN s.data.toList 93 (pA s.data.toList) k0 = v at hV ⊢
  have H0 := Lib.hid h
  have HN0 := Lib.hid hN
  have hBw := hN.le
  have hNB := hN.lt
  clear h hN hs'
  go_enter Tryd.func60, Tryd.ntmps60
  go_wp2_with fail
  refine (HSP.out k0 _ H0.out hk0).mono ?_
  rintro e w1 ⟨rfl, h1, g1⟩
  have H1 := Lib.hid h1
  have HN1 := Lib.hid (HN0.out.kept g1 hRB hNR)
  have G1 := Lib.hid ((Gr2.refl B w R N).reader hBw g1)
  have hr1 := HSR.out k0 hk0
  clear h1 g1 H0 HN0
  generalize spN s.data.toList k0 = k1 at H1 hV hr1
  go_wp2_with fail
  refine (HSEE.out k1 _ H1.out hr1.2).mono ?_
  rintro e w2 ⟨rfl, h2, g2⟩
  have H2 := Lib.hid h2
  have HN2 := Lib.hid ((HN1.out.kept g2 hRB hNR).mono hr1.1)
  have G2 := Lib.hid (G1.out.reader HN1.out.le g2)
  have hl2 := HLT.out k1 (seeP s.data.toList k1) rfl
  clear h2 g2 H1 HN1 G1
  by_cases q : seeP s.data.toList k1 = 93
  · have hlt := hl2 (by omega)
    have hv : v = k1 + 1 := by rw [hV.out, if_pos q]
    have HV := Lib.hid hv
    have c1 := H2.out.c1
    have f1 := H2.out.fz 1
    rw [q]
    clear hv hV q hl2
    go_wp2
    go_ret
    exact ⟨.inl ⟨by rw [HV.out]; omega, rfl, by rw [HV.out]; exact H2.out.inc, by rw [HV.out]; exact (HN2.out.reader hRB hNR _ _).mono (by omega)⟩, G2.out.set _ (.inl rfl)⟩
  · have b1 : (seeP s.data.toList k1 == 93) = false := by simpa using q
    have hv : v = pA s.data.toList k1 := by rw [hV.out, if_neg q]
    have HV := Lib.hid hv
    generalize seeP s.data.toList k1 = c at b1
    clear hv hV q hl2
    go_wp2_with fail
    go_loopg [4] (s.size - k1) (fun q z wx => ∃ k : Nat, z = .bool false ∧ k1 ≤ k ∧ k ≤ s.size ∧ q = s.size - k ∧ Hid (RdAt wx R s k true true f op) ∧ Hid (NodeAt wx N B k) ∧ Hid (Gr2 B w wx R N) ∧ Hid (v = pA s.data.toList k))
    case atStart => exact ⟨k1, rfl, Nat.le_refl _, hr1.2, rfl, H2, HN2, G2, HV⟩
    case round =>
      clear H2 HN2 G2 HV
      obtain ⟨k, rfl, hk1, hks, rfl, hR, hN, hG, hV⟩ := hrel
      go_wp2_with fail
      refine (HVAL.out k _ hR.out hks (by omega)).mono ?_
      rintro e w3 ⟨c3, t3, p1, l1, q1, p2, l2, q2, hcase, g3⟩
      have HN3 := Lib.hid (hN.out.kept g3 hRB hNR)
      have G3 := Lib.hid (hG.out.reader hN.out.le g3)
      have hB3 := HN3.out.le
      clear g3
      rcases hcase with ⟨hp, rfl, h3⟩ | ⟨hp, rfl, k3, f3, le3, hk3, n3, h3⟩
      · have H3 := Lib.hid h3
        clear h3 hR hN hG
        have hpr := HVR.out k hks hp
        have hv : v = nextN s.data.toList 93 (pA s.data.toList) (pV s.data.toList k) := by rw [hV.out, HAE.out k hks]
        have HV := Lib.hid hv
        have HP := Lib.hid hp
        clear hv hV hp
        generalize pV s.data.toList k = p at H3 hpr HV HP
        go_wp2_with fail
        go_cut [4] (fun z wx => z = .bool false ∧ Hid (RdAt wx R s p true true f op) ∧ Hid (NodeAt wx N B p) ∧ Hid (Gr2 B w wx R N))
        case first =>
          have HN4 := Lib.hid (HN3.out.alloc (Obj.cells #[.int .u8 c3, .string t3, .slice p1 l1 q1, .slice p2 l2 q2] 48))
          have H4 := Lib.hid (H3.out.alloc (Obj.cells #[.int .u8 c3, .string t3, .slice p1 l1 q1, .slice p2 l2 q2] 48))
          have G4 := Lib.hid (G3.out.alloc hB3 (Obj.cells #[.int .u8 c3, .string t3, .slice p1 l1 q1, .slice p2 l2 q2] 48))
          have k0 : (w3.alloc (Obj.cells #[.int .u8 c3, .string t3, .slice p1 l1 q1, .slice p2 l2 q2] 48)).cell? ⟨w3.heap.size, 0, none⟩ = some (.int .u8 c3) := by simp
          have k1 : (w3.alloc (Obj.cells #[.int .u8 c3, .string t3, .slice p1 l1 q1, .slice p2 l2 q2] 48)).cell? ⟨w3.heap.size, 1, none⟩ = some (.string t3) := by simp
          have k2 : (w3.alloc (Obj.cells #[.int .u8 c3, .string t3, .slice p1 l1 q1, .slice p2 l2 q2] 48)).cell? ⟨w3.heap.size, 2, none⟩ = some (.slice p1 l1 q1) := by simp
          have k3 : (w3.alloc (Obj.cells #[.int .u8 c3, .string t3, .slice p1 l1 q1, .slice p2 l2 q2] 48)).cell? ⟨w3.heap.size, 3, none⟩ = some (.slice p2 l2 q2) := by simp
          generalize w3.alloc (Obj.cells #[.int .u8 c3, .string t3, .slice p1 l1 q1, .slice p2 l2 q2] 48) = w4 at HN4 H4 G4 k0 k1 k2 k3 ⊢
          clear HN3 H3 G3 hB3
          obtain ⟨⟨c0, t0, vn, vk, nn, nk, xs, ys, e0, e1, e2, e3, on, ok, ln, lk, ap⟩, fz, lt, le⟩ := HN4.out
          obtain ⟨i0, hi, hz0, hz1, hz2⟩ := info_parts nodeInfo
          obtain ⟨pk, ck, rfl⟩ := ownsRow_form ok
          have HOK := Lib.hid ok
          have hlen : Hid (ys.length = nk * 4) := ok.1
          have HPE : Hid (∀ (g cap : Nat) (w5 : World), w5.ownsRow B 48 4 (.slice (some ⟨g, 0, none⟩) (nk + 1) cap) (nk + 1) (ys ++ [.int .u8 0, .string ByteArray.empty, .slice none 0 0, .slice none 0 0]) → w4.grownBy w5 (Value.slice pk nk ck).ownBlock → ((Value.slice pk nk ck).ownBlock = some g ∨ w4.heap.size ≤ g) → Pend w5 N B p (.slice (some ⟨g, 0, none⟩) (nk + 1) cap)) :=
            Lib.hid fun g cap w5 o5 hg hat => pend_of e0 e1 e2 e3 on ok hg o5 (by omega) (by omega) ap hat fz lt le
          have HFZ : Hid (∀ w5 : World, w4.grownBy w5 (Value.slice pk nk ck).ownBlock → w5.cell? ⟨N, 3, none⟩ = some (.slice pk nk ck) ∧ w5.frozen? ⟨N, 3, none⟩ = false) := Lib.hid fun w5 hg => by
            have hb : w5.heap[N]? = w4.heap[N]? := hg.block N (by omega) (fun e => by have := (ok.lt N e.symm).1; omega)
            exact ⟨(World.cell?_of_block (a := ⟨N, 3, none⟩) hb).trans e3, (World.frozen?_of_block (a := ⟨N, 3, none⟩) hb).trans (fz 3)⟩
          have HRW : Hid (∀ g, (Value.slice pk nk ck).ownBlock = some g → B ≤ g) := Lib.hid fun g e => (ok.lt g e).1
          have al : ∀ a v, w4.cell? a = some v → (w4.alloc (Obj.cells #[.int .u8 0, .string ⟨#[]⟩, .slice none 0 0, .slice none 0 0] 48)).cell? a = some v := fun a v h => (World.grownBy_alloc w4 _ none).cell h (by simp)
          have a0 := al _ _ k0
          have a1 := al _ _ k1
          have a2 := al _ _ k2
          have a3 := al _ _ k3
          have an := al _ _ e3
          clear on ok ap fz e0 e1 e2 HN4 al
          have hnk0 : (0 : Int) ≤ (nk : Int) := by omega
          have hnk1 : (nk : Int) < (nk : Int) + 1 := by omega
          have hrR : Hid ( (Value.slice pk nk ck).ownBlock ≠ some R) := Lib.hid fun e => by have := HRW.out R e; omega
          go_region_law ((refine step_append_lies _ (by rfl) _ _ _ (by rfl) B 48 i0 _ 4 72 Tryd.underlying46 hi hz0 hz1 hz2 rfl (by omega) (.slice pk nk ck) nk ys (by rfl) (HOK.out.drew.alloc _) ⟨w4.heap.size, 0, none⟩ 1 1 [.int .u8 0, .string ByteArray.empty, .slice none 0 0, .slice none 0 0] (by rfl) (by rfl) (World.news_of_block (cs := #[.int .u8 0, .string ByteArray.empty, .slice none 0 0, .slice none 0 0]) (t := 48) (fr := (0, 0)) (heap_alloc_new _ _)) (by simp [Value.oneCell']) (by omega) (by simp [maxLen]; omega) (by omega) (by simp; omega) (w4.heap.size + 1) (by simp) ?_; intro g cap w5 hown5 hgrow0 hat hlt; obtain ⟨⟨s0, s1, s2, s3⟩, sf⟩ := node_slot hown5 hlen.out; have hgrow := Lib.hid (grow_trans (grow_drew w4 _ _) hgrow0); obtain ⟨n3, nf3⟩ := HFZ.out w5 hgrow.out; have hat' : (Value.slice pk nk ck).ownBlock = some g ∨ w4.heap.size ≤ g := hat.imp id (by omega); have HP5 := Lib.hid (HPE.out g cap w5 hown5 hgrow.out hat'); have hBg : B ≤ g := hat'.elim (fun e => HRW.out g e) (fun e => by omega); have sf0 := sf (nk * 4); have sf1 := sf (nk * 4 + 1); have sf2 := sf (nk * 4 + 2); have sf3 := sf (nk * 4 + 3); clear hgrow0 hown5 hat hat' sf))
          all_goals (
            go_wp2
            go_meet
            have hgR : ¬ g = R := by omega
            have qR := (((((H4.out.grew hgrow.out hrR.out).far ⟨g, nk * 4, none⟩ hgR (.int .u8 c3)).far ⟨g, nk * 4 + 1, none⟩ hgR (.string t3)).far ⟨g, nk * 4 + 2, none⟩ hgR (.slice p1 l1 q1)).far ⟨g, nk * 4 + 3, none⟩ hgR (.slice p2 l2 q2)).far ⟨N, 3, none⟩ hNR (.slice (some ⟨g, 0, none⟩) (nk + 1) cap)
            have qR' := (((((H4.out.grew hgrow.out hrR.out).far ⟨N, 3, none⟩ hNR (.slice (some ⟨g, 0, none⟩) (nk + 1) cap)).far ⟨g, nk * 4, none⟩ hgR (.int .u8 c3)).far ⟨g, nk * 4 + 1, none⟩ hgR (.string t3)).far ⟨g, nk * 4 + 2, none⟩ hgR (.slice p1 l1 q1)).far ⟨g, nk * 4 + 3, none⟩ hgR (.slice p2 l2 q2)
            have qG0 := G4.out.row le hgrow.out (fun g e => HRW.out g e)
            have sg : ∀ j, (⟨g, j, none⟩ : Addr).block = R ∨ (⟨g, j, none⟩ : Addr).block = N ∨ B ≤ (⟨g, j, none⟩ : Addr).block := fun j => .inr (.inr hBg)
            have sn : (⟨N, 3, none⟩ : Addr).block = R ∨ (⟨N, 3, none⟩ : Addr).block = N ∨ B ≤ (⟨N, 3, none⟩ : Addr).block := .inr (.inl rfl)
            have qN := ((((HP5.out.row hBg (nk * 4) (.int .u8 c3)).row hBg (nk * 4 + 1) (.string t3)).row hBg (nk * 4 + 2) (.slice p1 l1 q1)).row hBg (nk * 4 + 3) (.slice p2 l2 q2)).store
            have qN' := ((((HP5.out.store).row hBg (nk * 4) (.int .u8 c3)).row hBg (nk * 4 + 1) (.string t3)).row hBg (nk * 4 + 2) (.slice p1 l1 q1)).row hBg (nk * 4 + 3) (.slice p2 l2 q2)
            have qG := ((((qG0.set (.int .u8 c3) (sg (nk * 4))).set (.string t3) (sg (nk * 4 + 1))).set (.slice p1 l1 q1) (sg (nk * 4 + 2))).set (.slice p2 l2 q2) (sg (nk * 4 + 3))).set (.slice (some ⟨g, 0, none⟩) (nk + 1) cap) sn
            have qG' := ((((qG0.set (.slice (some ⟨g, 0, none⟩) (nk + 1) cap) sn).set (.int .u8 c3) (sg (nk * 4))).set (.string t3) (sg (nk * 4 + 1))).set (.slice p1 l1 q1) (sg (nk * 4 + 2))).set (.slice p2 l2 q2) (sg (nk * 4 + 3))
            first
              | with_reducible exact ⟨rfl, Lib.hid qR, Lib.hid qN, Lib.hid qG⟩
              | with_reducible exact ⟨rfl, Lib.hid qR', Lib.hid qN', Lib.hid qG'⟩)
        case rest =>
          clear HN3 H3 G3 hB3
          obtain ⟨rfl, H3, HN3, G3⟩ := hcut
          have HV2 : Hid (v = if p = 0 then 0 else if seeP s.data.toList (spN s.data.toList p) = 93 then spN s.data.toList p + 1 else if seeP s.data.toList (spN s.data.toList p) = 44 then pA s.data.toList (spN s.data.toList p + 1) else 0) := HV
          have hr4 := HSR.out p hpr.2
          clear HV
          go_wp2_with fail
          refine (HSP.out p _ H3.out hpr.2).mono ?_
          rintro e w4 ⟨rfl, h4, g4⟩
          have H4 := Lib.hid h4
          have HN4 := Lib.hid (HN3.out.kept g4 hRB hNR)
          have G4 := Lib.hid (G3.out.reader HN3.out.le g4)
          clear h4 g4 H3 HN3 G3
          generalize spN s.data.toList p = k4 at H4 HV2 hr4
          go_wp2_with fail
          refine (HSEE.out k4 _ H4.out hr4.2).mono ?_
          rintro e w5 ⟨rfl, h5, g5⟩
          have H5 := Lib.hid h5
          have HN5 := Lib.hid ((HN4.out.kept g5 hRB hNR).mono hr4.1)
          have G5 := Lib.hid (G4.out.reader HN4.out.le g5)
          have hl5 := HLT.out k4 (seeP s.data.toList k4) rfl
          have HC := Lib.hid (HND.out k4)
          clear h5 g5 H4 HN4 G4
          generalize seeP s.data.toList k4 = c5 at HV2 hl5 HC
          by_cases q5 : c5 = 93
          · subst q5
            have hlt := hl5 (by decide)
            have hv : v = k4 + 1 := by rw [HV2.out, if_neg HP.out, if_pos rfl]
            have HV := Lib.hid hv
            have c1 := H5.out.c1
            have f1 := H5.out.fz 1
            clear hv HV2 hl5
            go_wp2
            go_ret
            exact ⟨.inl ⟨by rw [HV.out]; omega, rfl, by rw [HV.out]; exact H5.out.inc, by rw [HV.out]; exact (HN5.out.reader hRB hNR _ _).mono (by omega)⟩, G5.out.set _ (.inl rfl)⟩
          · have b5 : (c5 == 93) = false := by simpa using q5
            have hv : v = if c5 = 44 then pA s.data.toList (k4 + 1) else 0 := by rw [HV2.out, if_neg HP.out, if_neg q5]
            have HV := Lib.hid hv
            clear hv HV2 q5
            go_wp2_with fail
            refine (HC.out _ H5.out hr4.2).mono ?_
            rintro e w6 (⟨ok6, rfl, h6, g6⟩ | ⟨ok6, rfl, ⟨k6, f6, le6, hk6, n6, h6⟩, g6⟩)
            · have H6 := Lib.hid h6
              have HN6 := Lib.hid ((HN5.out.kept g6 hRB hNR).mono (Nat.le_succ k4))
              have G6 := Lib.hid (G5.out.reader HN5.out.le g6)
              have hlt := hl5 (by omega)
              have hv : v = pA s.data.toList (k4 + 1) := by rw [HV.out, if_pos ok6]
              have HV6 := Lib.hid hv
              clear h6 g6 ok6 hv HV hl5 HC
              go_wp2
              go_roundg (s.size - (k4 + 1))
              case measure => omega
              case rel => exact ⟨k4 + 1, rfl, by omega, by omega, rfl, H6, HN6, G6, HV6⟩
            · have H6 := Lib.hid h6
              have HN6 := Lib.hid ((HN5.out.kept g6 hRB hNR).mono (show k4 ≤ s.size + 1 by omega))
              have G6 := Lib.hid (G5.out.reader HN5.out.le g6)
              have hv : v = 0 := by rw [HV.out, if_neg ok6]
              have HV6 := Lib.hid hv
              clear h6 g6 ok6 hv HV hl5 HC
              go_wp2
              go_ret
              exact ⟨.inr ⟨fun z => z HV6.out, rfl, k6, f6, by omega, hk6, n6, H6.out, HN6.out⟩, G6.out⟩
      · have H3 := Lib.hid h3
        have hv : v = 0 := by rw [hV.out, HAE.out k hks, hp]; rfl
        have HV := Lib.hid hv
        have HN4 := Lib.hid ((HN3.out.alloc (Obj.cells #[.int .u8 c3, .string t3, .slice p1 l1 q1, .slice p2 l2 q2] 48)).mono (show k ≤ s.size + 1 by omega))
        have H4 := Lib.hid (H3.out.alloc (Obj.cells #[.int .u8 c3, .string t3, .slice p1 l1 q1, .slice p2 l2 q2] 48))
        have G4 := Lib.hid (G3.out.alloc hB3 (Obj.cells #[.int .u8 c3, .string t3, .slice p1 l1 q1, .slice p2 l2 q2] 48))
        clear h3 hR hN hG hV hv hp H3 HN3 G3
        go_wp2
        go_ret
        exact ⟨.inr ⟨fun z => z HV.out, rfl, k3, f3, by omega, hk3, n3, H4.out, HN4.out⟩, G4.out⟩
end Go.Proofs.YtklncgmfbflooaaDoor
