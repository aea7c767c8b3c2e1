/- The reference's reader: a literal, a number or a string, walked. -/
import Derived.Test.YtklncgmfbflooaaDoorRdNode
import Derived.Deep.CutBlock
namespace Go.Proofs.YtklncgmfbflooaaDoor
open Go.RowKit
/-- What stands ahead of the text's copy: an answer, a place. -/
def ScR (v : Nat) (R N B : Nat) (s : ByteArray) (k : Nat) (f : Int) (op : Bool) (w : World) (b : Bool) (wx : World) : Prop :=
  ∃ (kk : Nat) (ff : Int), k ≤ kk ∧ kk ≤ s.size ∧ RdAt wx R s kk true true ff op ∧ NodeAt wx N B (s.size + 1) ∧ NodeAt wx N B k ∧ Gr2 B w wx R N ∧ (b = true → ¬ v = 0 ∧ kk = v ∧ ff = f) ∧ (b = false → v = 0 ∧ ¬ ff = 0)
theorem ScR.of {v n R N B : Nat} {s : ByteArray} {k : Nat} {f : Int} {op : Bool} {w w0 w1 : World} {e : Ending} {ok : Prop} (h : Rd ok n R s k true true f op w0 e w1) (hN : NodeAt w0 N B k) (hG : Gr2 B w w0 R N) (hRB : R < B) (hNR : ¬ N = R) (hk : k ≤ s.size) (hok : ok ↔ ¬ v = 0) (hn : ok → n = v ∧ k ≤ n ∧ n ≤ s.size) : ∃ b, e = .returned (.bool b) ∧ Hid (ScR v R N B s k f op w b w1) := by
  rcases h with ⟨a, rfl, h1, h2⟩ | ⟨a, rfl, ⟨k', f', q1, q2, q3, h1⟩, h2⟩
  · have hN1 := hN.kept h2 hRB hNR
    exact ⟨true, rfl, n, f, (hn a).2.1, (hn a).2.2, h1, hN1.mono (by omega), hN1, hG.reader hN.le h2, fun _ => ⟨hok.1 a, (hn a).1, rfl⟩, fun q => by cases q⟩
  · have hN1 := hN.kept h2 hRB hNR
    exact ⟨false, rfl, k', f', q1, q2, h1, hN1.mono (by omega), hN1, hG.reader hN.le h2, (fun q => by cases q), fun _ => ⟨Classical.byContradiction fun z => a (hok.2 z), q3⟩⟩
set_option maxRecDepth 100000 in
set_option maxHeartbeats 4000000 in
theorem scalarS (R N B : Nat) (s : ByteArray) (k0 : Nat) (f : Int) (op : Bool) (w : World) (h : RdAt w R s k0 true true f op) (hN : NodeAt w N B k0) (hRB : R < B) (hNR : ¬ N = R) (hs : s.size ≤ 2147483647) (hk0 : k0 ≤ s.size) :
    Calls Tryd.prog 61 #[.pointer (some ⟨R, 0, none⟩), .pointer (some ⟨N, 0, none⟩)] w (RdN (¬ scaN s.data.toList k0 = 0) (scaN s.data.toList k0) R N B s k0 f op w) := by
  have hs' : s.size ≤ 140737488355328 := by omega
  have HFL : Hid (∀ W, RdAt W R s k0 true true f op → Calls Tryd.prog 42 #[.pointer (some ⟨R, 0, none⟩), .int .i64 4] W (NoPost R s k0 true true op W)) := Lib.hid fun W a => failNo R s k0 true true f op 4 (by decide) W a hk0
  have HQ : Hid (∀ W, RdAt W R s k0 true true f op → Calls Tryd.prog 77 #[.pointer (some ⟨R, 0, none⟩)] W (Rd (¬ strQ true s.data.toList k0 = 0) (strQ true s.data.toList k0) R s k0 true true f op W)) := Lib.hid fun W a => quotedS R s k0 true true f op W a hs' hk0
  have HNU : Hid (∀ W, RdAt W R s k0 true true f op → Calls Tryd.prog 78 #[.pointer (some ⟨R, 0, none⟩)] W (Rd (¬ numN s.data.toList k0 = 0) (numN s.data.toList k0) R s k0 true true f op W)) := Lib.hid fun W a => numberS R s k0 true true f op W a hs' hk0
  have HWD : Hid (∀ (m : ByteArray) W, m.size ≤ 4000 → 0 < m.size → RdAt W R s k0 true true f op → Calls Tryd.prog 76 #[.pointer (some ⟨R, 0, none⟩), .string m] W (Rd (¬ wordN s.data.toList m.data.toList k0 = 0) (wordN s.data.toList m.data.toList k0) R s k0 true true f op W)) := Lib.hid fun m W b c a => wordS R s m k0 true true f op W a hs' hk0 b c
  have HND : Hid (∀ k W, RdAt W R s k true true f op → k ≤ s.size → Calls Tryd.prog 65 #[.pointer (some ⟨R, 0, none⟩), .int .u8 34, .int .u8 34] W (Rd (seeP s.data.toList k = 34) (k + 1) R s k true true f op W)) := Lib.hid fun k W a b => need1 R s k true true f op 34 (by decide) W a hs' b
  have HV : Hid (scaN s.data.toList k0 = if seeP s.data.toList k0 = 110 then wordN s.data.toList nullL k0
  else if seeP s.data.toList k0 = 116 then wordN s.data.toList trueL k0
  else if seeP s.data.toList k0 = 102 then wordN s.data.toList falseL k0
  else if seeP s.data.toList k0 = 34 then (if strQ true s.data.toList k0 = 0 then 0 else strQ true s.data.toList k0 + 1)
  else if seeP s.data.toList k0 = 45 ∨ (48 ≤ seeP s.data.toList k0 ∧ seeP s.data.toList k0 ≤ 57) then numN s.data.toList k0
  else 0) := rfl
  have HR : Hid (¬ scaN s.data.toList k0 = 0 → k0 ≤ scaN s.data.toList k0 ∧ scaN s.data.toList k0 ≤ s.size) := Lib.hid fun q => by have := scaN_range (l := s.data.toList) (k := k0) (by rw [size_list]; exact hk0) q; rw [size_list] at this; omega
  have HQR : Hid (¬ strQ true s.data.toList k0 = 0 → k0 < strQ true s.data.toList k0 ∧ strQ true s.data.toList k0 < s.size ∧ seeP s.data.toList (strQ true s.data.toList k0) = 34) := Lib.hid fun q => by
    have := strQ_range q
    refine ⟨this.2.1, by have := this.2.2.1; rwa [size_list] at this, ?_⟩
    unfold seeP; rw [if_pos this.2.2.1]; exact this.2.2.2
  have HSEE := Lib.hid (see R s k0 true true f op w h hs' hk0)
  obtain ⟨v, hv⟩ : ∃ v, v = scaN s.data.toList k0 := ⟨_, rfl⟩
  rw [← hv] at HV HR ⊢
  have c1 := h.c1
  have HN0 := Lib.hid hN
  have hBw := hN.le
  have hNB := hN.lt
  clear h hN hs' hv
  go_enter Tryd.func61, Tryd.ntmps61
  go_wp2_with fail
  refine HSEE.out.mono ?_
  rintro e w1 ⟨rfl, h1, g1⟩
  have H1 := Lib.hid h1
  have HN1 := Lib.hid (HN0.out.kept g1 hRB hNR)
  have G1 := Lib.hid ((Gr2.refl B w R N).reader hBw g1)
  clear h1 g1 HN0 HSEE c1
  generalize seeP s.data.toList k0 = c at HV
  go_upto_block 0 with fail
  go_cut [4, 5, 6] (fun y4 y5 y6 wx => y4 = .bool false ∧ y5 = .int .i64 k0 ∧ ∃ b, y6 = .bool b ∧ Hid (ScR v R N B s k0 f op w b wx))
  case first =>
    by_cases q110 : c = 110
    · subst q110
      have hv : v = wordN s.data.toList nullL k0 := by rw [HV.out]; rw [if_pos rfl]
      have HV2 := Lib.hid hv
      clear hv HV
      go_wp2_with fail
      refine (HWD.out ⟨#[110, 117, 108, 108]⟩ _ (by decide) (by decide) H1.out).mono ?_
      rintro e w2 hp
      obtain ⟨b, rfl, hp2⟩ := ScR.of hp HN1.out G1.out hRB hNR hk0 (v := v) (by rw [HV2.out]; exact Iff.rfl) (fun z => by have z2 : ¬ v = 0 := (by rw [HV2.out]; exact z); exact ⟨by rw [HV2.out]; rfl, by have := HR.out z2; rw [HV2.out] at this; exact this⟩)
      clear hp
      go_wp2
      go_meet
      exact ⟨rfl, rfl, b, rfl, hp2⟩
    · have b110 : (c == 110) = false := by simpa using q110
      by_cases q116 : c = 116
      · subst q116
        have hv : v = wordN s.data.toList trueL k0 := by rw [HV.out]; rw [if_neg (by decide)]; rw [if_pos rfl]
        have HV2 := Lib.hid hv
        clear hv HV
        go_wp2_with fail
        refine (HWD.out ⟨#[116, 114, 117, 101]⟩ _ (by decide) (by decide) H1.out).mono ?_
        rintro e w2 hp
        obtain ⟨b, rfl, hp2⟩ := ScR.of hp HN1.out G1.out hRB hNR hk0 (v := v) (by rw [HV2.out]; exact Iff.rfl) (fun z => by have z2 : ¬ v = 0 := (by rw [HV2.out]; exact z); exact ⟨by rw [HV2.out]; rfl, by have := HR.out z2; rw [HV2.out] at this; exact this⟩)
        clear hp
        go_wp2
        go_meet
        exact ⟨rfl, rfl, b, rfl, hp2⟩
      · have b116 : (c == 116) = false := by simpa using q116
        by_cases q102 : c = 102
        · subst q102
          have hv : v = wordN s.data.toList falseL k0 := by rw [HV.out]; rw [if_neg (by decide)]; rw [if_neg (by decide)]; rw [if_pos rfl]
          have HV2 := Lib.hid hv
          clear hv HV
          go_wp2_with fail
          refine (HWD.out ⟨#[102, 97, 108, 115, 101]⟩ _ (by decide) (by decide) H1.out).mono ?_
          rintro e w2 hp
          obtain ⟨b, rfl, hp2⟩ := ScR.of hp HN1.out G1.out hRB hNR hk0 (v := v) (by rw [HV2.out]; exact Iff.rfl) (fun z => by have z2 : ¬ v = 0 := (by rw [HV2.out]; exact z); exact ⟨by rw [HV2.out]; rfl, by have := HR.out z2; rw [HV2.out] at this; exact this⟩)
          clear hp
          go_wp2
          go_meet
          exact ⟨rfl, rfl, b, rfl, hp2⟩
        · have b102 : (c == 102) = false := by simpa using q102
          by_cases q34 : c = 34
          · subst q34
            have hv : v = if strQ true s.data.toList k0 = 0 then 0 else strQ true s.data.toList k0 + 1 := by rw [HV.out]; rw [if_neg (by decide)]; rw [if_neg (by decide)]; rw [if_neg (by decide)]; rw [if_pos rfl]
            have HV2 := Lib.hid hv
            clear hv HV q110 q116 q102
            generalize strQ true s.data.toList k0 = q0 at HV2 HQ HQR
            go_wp2_with fail
            refine (HQ.out _ H1.out).mono ?_
            rintro e w2 (⟨ok, rfl, h2, g2⟩ | ⟨ok, rfl, ⟨k2, f2, le2, hk2, n2, h2⟩, g2⟩)
            · have H2 := Lib.hid h2
              have HN2 := Lib.hid (HN1.out.kept g2 hRB hNR)
              have G2 := Lib.hid (G1.out.reader HN1.out.le g2)
              have hr := HQR.out ok
              have hv : v = q0 + 1 := by rw [HV2.out, if_neg ok]
              have HV3 := Lib.hid hv
              have HNDq := Lib.hid (HND.out q0)
              clear h2 g2 ok hv HQ HQR HV2
              go_wp2_with fail
              refine (HNDq.out _ H2.out (by omega)).mono ?_
              rintro e w3 (⟨ok, rfl, h3, g3⟩ | ⟨ok, _⟩)
              · have H3 := Lib.hid h3
                have HN3 := Lib.hid (HN2.out.kept g3 hRB hNR)
                have G3 := Lib.hid (G2.out.reader HN2.out.le g3)
                clear h3 g3 ok
                go_wp2
                go_meet
                exact ⟨rfl, rfl, true, rfl, q0 + 1, f, by omega, by omega, H3.out, HN3.out.mono (by omega), HN3.out, G3.out, fun _ => ⟨by rw [HV3.out]; omega, HV3.out.symm, rfl⟩, fun q => by cases q⟩
              · exact absurd hr.2.2 ok
            · have H2 := Lib.hid h2
              have HN2 := Lib.hid (HN1.out.kept g2 hRB hNR)
              have G2 := Lib.hid (G1.out.reader HN1.out.le g2)
              have hv : v = 0 := by rw [HV2.out, if_pos (Classical.byContradiction ok)]
              have HV3 := Lib.hid hv
              clear h2 g2 ok hv
              go_wp2
              go_meet
              exact ⟨rfl, rfl, false, rfl, k2, f2, le2, hk2, H2.out, HN2.out.mono (by omega), HN2.out, G2.out, (fun q => by cases q), fun _ => ⟨HV3.out, n2⟩⟩
          · have b34 : (c == 34) = false := by simpa using q34
            by_cases qd : c = 45 ∨ (48 ≤ c ∧ c ≤ 57)
            · have hv : v = numN s.data.toList k0 := by rw [HV.out, if_neg q110, if_neg q116, if_neg q102, if_neg q34, if_pos qd]
              have HV2 := Lib.hid hv
              have QD := Lib.hid qd
              clear hv HV q110 q116 q102 q34
              obtain ⟨⟨cn0, t0, vn, vk, nn, nk, xs, ys, e0, rest⟩, fz, lt, le⟩ := HN1.out
              have f0 := fz 0
              clear rest fz
              have HNK := Lib.hid (HN1.out.setKind 48)
              have GK := Lib.hid (G1.out.set (.int .u8 48) (q := ⟨N, 0, none⟩) (.inr (.inl rfl)))
              have HK := Lib.hid (H1.out.far ⟨N, 0, none⟩ hNR (.int .u8 48))
              rcases qd with qd | qd
              · subst qd
                go_wp2_with fail
                refine (HNU.out _ HK.out).mono ?_
                rintro e w2 hp
                obtain ⟨b, rfl, hp2⟩ := ScR.of hp HNK.out GK.out hRB hNR hk0 (v := v) (by rw [HV2.out]) (fun z => ⟨HV2.out.symm, by have z2 : ¬ v = 0 := (by rw [HV2.out]; exact z); have := HR.out z2; rw [HV2.out] at this; exact this⟩)
                clear hp
                go_wp2
                go_meet
                exact ⟨rfl, rfl, b, rfl, hp2⟩
              · have : c = 48 ∨ c = 49 ∨ c = 50 ∨ c = 51 ∨ c = 52 ∨ c = 53 ∨ c = 54 ∨ c = 55 ∨ c = 56 ∨ c = 57 := by omega
                clear qd QD b110 b116 b102 b34
                rcases this with rfl | rfl | rfl | rfl | rfl | rfl | rfl | rfl | rfl | rfl
                all_goals (
                  go_wp2_with fail
                  refine (HNU.out _ HK.out).mono ?_
                  rintro e w2 hp
                  obtain ⟨b, rfl, hp2⟩ := ScR.of hp HNK.out GK.out hRB hNR hk0 (v := v) (by rw [HV2.out]) (fun z => ⟨HV2.out.symm, by have z2 : ¬ v = 0 := (by rw [HV2.out]; exact z); have := HR.out z2; rw [HV2.out] at this; exact this⟩)
                  clear hp
                  go_wp2
                  go_meet
                  exact ⟨rfl, rfl, b, rfl, hp2⟩)
            · have hv : v = 0 := by rw [HV.out, if_neg q110, if_neg q116, if_neg q102, if_neg q34, if_neg qd]
              have HV2 := Lib.hid hv
              have b45 : (c == 45) = false := by simp; omega
              have b48 : (c == 48) = false := by simp; omega
              have b49 : (c == 49) = false := by simp; omega
              have b50 : (c == 50) = false := by simp; omega
              have b51 : (c == 51) = false := by simp; omega
              have b52 : (c == 52) = false := by simp; omega
              have b53 : (c == 53) = false := by simp; omega
              have b54 : (c == 54) = false := by simp; omega
              have b55 : (c == 55) = false := by simp; omega
              have b56 : (c == 56) = false := by simp; omega
              have b57 : (c == 57) = false := by simp; omega
              clear hv HV q110 q116 q102 q34 qd
              go_wp2_with fail
              refine (HFL.out _ H1.out).mono ?_
              rintro e w2 ⟨rfl, ⟨k2, f2, le2, hk2, n2, h2⟩, g2⟩
              have H2 := Lib.hid h2
              have HN2 := Lib.hid ((HN1.out.kept g2 hRB hNR).mono (show k0 ≤ s.size + 1 by omega))
              have G2 := Lib.hid (G1.out.reader HN1.out.le g2)
              clear h2 g2
              go_wp2
              go_ret
              exact ⟨.inr ⟨fun z => z HV2.out, rfl, k2, f2, by omega, hk2, n2, H2.out, HN2.out⟩, G2.out⟩
  case rest =>
    clear H1 HN1 G1
    obtain ⟨rfl, rfl, b, rfl, hS⟩ := hcut
    obtain ⟨kk, ff, hk1, hk2, hR, hN, hN', hG, hy, hn⟩ := hS.out
    have H2 := Lib.hid hR
    have HN2 := Lib.hid hN
    have HN2' := Lib.hid hN'
    have G2 := Lib.hid hG
    have HY := Lib.hid hy
    have HNO := Lib.hid hn
    have r0 := hR.c0
    have r1 := hR.c1
    obtain ⟨⟨cn0, t0, vn, vk, nn, nk, xs, ys, e0, e1, rest⟩, fz, lt, le⟩ := hN
    have f1 := fz 1
    clear rest fz e0 hR hN' hG hy hn hS
    have a0 : (k0 : Int) ≤ (kk : Int) := by omega
    have a1 : (kk : Int) ≤ (s.size : Int) := by omega
    go_wp2_with fail
    go_region_law (fail)
    all_goals (
      go_wp2
      go_ret
      have qR := (H2.out.far ⟨N, 1, none⟩ hNR (.string (s.extract k0 kk))).drew
      have qN := (HN2.out.setText (s.extract k0 kk)).drew
      have qN' := (HN2'.out.setText (s.extract k0 kk)).drew
      have qG := (G2.out.set (.string (s.extract k0 kk)) (q := ⟨N, 1, none⟩) (.inr (.inl rfl))).drew
      cases b
      · obtain ⟨z1, z2⟩ := HNO.out rfl
        exact ⟨.inr ⟨fun z => z z1, rfl, kk, ff, hk1, hk2, z2, qR, qN⟩, qG⟩
      · obtain ⟨z1, z2, z3⟩ := HY.out rfl
        subst z2
        subst z3
        exact ⟨.inl ⟨z1, rfl, qR, qN'.mono hk1⟩, qG⟩)
end Go.Proofs.YtklncgmfbflooaaDoor
