/- The old scanner: a new one, and a whole text checked: walked. -/
import Derived.Test.YtklncgmfbflooaaDoorScanCheck
namespace Go.Proofs.YtklncgmfbflooaaDoor
open Go.RowKit
theorem newScannerS (w : World) :
    Calls Tryd.prog 54 #[] w fun e w' => e = .returned (.pointer (some ⟨w.heap.size, 0, none⟩)) ∧ ScAt w' w.heap.size (w.heap.size + 1) c0C ∧ Below w.heap.size w w' := by
  have hraw : ScRaw (w.alloc (Obj.cells #[.nilFunc, .bool false, .slice none 0 0, .nilIface, .int .i64 0] 117)) w.heap.size (w.heap.size + 1) := by
    refine ⟨⟨.nilFunc, by simp⟩, ⟨false, by simp⟩, ⟨.slice none 0 0, by simp, World.ownsRow_nil _ _ _ _⟩, ⟨.nilIface, by simp⟩, ⟨0, by simp⟩, fun j => by simp, Nat.lt_succ_self _, by simp⟩
  have HR := Lib.hid (resetS w.heap.size (w.heap.size + 1) _ hraw)
  clear hraw
  go_enter Tryd.func54, Tryd.ntmps54
  go_wp2_with fail
  refine HR.out.mono ?_
  rintro e w1 ⟨rfl, h1, g1⟩
  have H1 := Lib.hid h1
  have G1 := Lib.hid g1
  clear h1 g1 HR
  go_wp2
  go_ret
  refine ⟨rfl, H1.out, ⟨G1.out.os, G1.out.tape, G1.out.output, by have := G1.out.size; simp at this; omega, fun i hi => (G1.out.block i (by omega) (by omega) (by omega)).trans ?_⟩⟩
  show (w.heap.push _)[i]? = _
  rw [Array.getElem?_push, if_neg (by omega)]
def CvPost (b : Bool) (S B : Nat) (w : World) (e : Ending) (w' : World) : Prop :=
  ∃ v s', e = .returned v ∧ ScAt w' S B s' ∧ Gr2 B w w' S S ∧ (b = true → v = .nilIface) ∧ (b = false → ∃ p, v = .iface 94 (.pointer (some ⟨p, 0, none⟩)) ∧ B ≤ p ∧ SynAt w' p)
set_option maxRecDepth 100000 in
set_option maxHeartbeats 4000000 in
theorem checkValidS (S B g cap : Nat) (l : List UInt8) (w : World) (h : ScRaw w S B) (hl : l.length < 10000) (hb : BytesAt w g 0 l) (hg : g < B) (hgS : ¬ g = S) :
    Calls Tryd.prog 53 #[.slice (some ⟨g, 0, none⟩) l.length cap, .pointer (some ⟨S, 0, none⟩)] w (CvPost (takenB l) S B w) := by
  have HRS := Lib.hid (resetS S B w h)
  have HV : Hid (goM l c0C 0 = takenB l) := Lib.hid (scan_taken l)
  generalize takenB l = b at HV ⊢
  have HL := Lib.hid hl
  have HBY : Hid (∀ w', Gr2 B w w' S S → BytesAt w' g 0 l) := Lib.hid fun w' q j hj => (World.cell?_of_block (a := ⟨g, 0 + j, none⟩) (q.block g hg hgS hgS)).trans (hb j hj)
  clear h hb
  obtain ⟨n, hn⟩ : ∃ n, n = l.length := ⟨_, rfl⟩
  rw [← hn]
  have HN := Lib.hid hn
  clear hn
  go_enter Tryd.func53, Tryd.ntmps53
  go_wp2_with fail
  refine HRS.out.mono ?_
  rintro e w1 ⟨rfl, h1, g1⟩
  have H1 := Lib.hid h1
  have G1 := Lib.hid g1
  clear h1 g1 HRS hl
  have hnl : n < 10000 := by rw [HN.out]; exact HL.out
  go_wp2
  go_loopg [4, 11] n (fun q z i wx => z = .nilIface ∧ ∃ (k : Nat) (s : Cfg), k ≤ n ∧ q = n - k ∧ i = .int .i64 k ∧ Hid (ScAt wx S B s) ∧ Hid (Gr2 B w wx S S) ∧ Hid (InvC s k) ∧ Hid (goM l s k = b))
  case atStart => exact ⟨rfl, 0, c0C, Nat.zero_le _, rfl, rfl, H1, G1, Lib.hid ⟨fun x hx => (by simp [c0C] at hx), Nat.zero_le _, (fun z => by cases z), (fun z => by cases z)⟩, HV⟩
  case round =>
    clear H1 G1 HV
    obtain ⟨rfl, k, s, hk, rfl, rfl, hS, hG, hI, hM⟩ := hrel
    have c0 := hS.out.c0
    obtain ⟨n4, c4⟩ := hS.out.c4
    have f4 := hS.out.fz 4
    by_cases hkn : k < n
    · have hkl : k < l.length := by rw [← HN.out]; exact hkn
      have ck : wr.cell? ⟨g, k, none⟩ = some (.int .u8 (atL l k)) := by have := HBY.out _ hG.out k hkl; rwa [Nat.zero_add] at this
      have hN := fun X => hS.out.setN X
      have c0' := fun X => (hN X).c0
      have HSN := Lib.hid hN
      have hG2 : Hid (∀ X : Int, Gr2 B w (wr.setCell ⟨S, 4, none⟩ (.int .i64 X)) S S) := Lib.hid fun X => hG.out.set (.int .i64 X) (q := ⟨S, 4, none⟩) (.inl rfl)
      have hst : Hid (∀ X : Int, Calls Tryd.prog (fid s.q) #[.pointer (some ⟨S, 0, none⟩), .int .u8 (atL l k)] (wr.setCell ⟨S, 4, none⟩ (.int .i64 X)) (StepPost S B (stepM s.q s (atL l k)) (wr.setCell ⟨S, 4, none⟩ (.int .i64 X)))) := Lib.hid fun X => stepS s.q S B s (atL l k) _ (hN X) ⟨hI.out.el, by have := hI.out.len; omega⟩ (atL_range _ _).1 hI.out.bse
      have hq := enterQ s.q
      have hinv := Lib.hid (inv_step hI.out (atL l k))
      have hbad := Lib.hid (bad_step hI.out (atL l k))
      have hgo := goM_at (l := l) (s := s) hkl
      rw [hM.out] at hgo
      have HGO := Lib.hid hgo
      have hcr := atL_range l k
      generalize stepM s.q s (atL l k) = r at hst hinv hbad HGO
      generalize fid s.q = fq at c0 c0' hst hq
      generalize atL l k = c at ck hst hcr
      clear hN hgo hS hG hI hM
      go_wp2_with fail
      refine (hst.out _).mono ?_
      rintro e w2 ⟨rfl, h2, g2⟩
      have H2 := Lib.hid h2
      have G2 := Lib.hid ((hG2.out _).trans g2)
      by_cases h11 : r.2 = 11
      · have hbf : b = false := by rw [HGO.out, if_pos h11]
        obtain ⟨x, c3, _, e2⟩ := h2.c3
        obtain ⟨p, rfl, hp⟩ := e2 (hbad.out h11)
        rw [h11]
        have HBF := Lib.hid hbf
        clear h2 g2 hst hq c0 c0' h11 hbf
        go_wp2
        go_ret
        exact ⟨_, r.1, rfl, H2.out, G2.out, (fun z => by rw [HBF.out] at z; cases z), fun _ => ⟨p, rfl, hp⟩⟩
      · have hbt : goM l r.1 (k + 1) = b := by rw [HGO.out, if_neg h11]
        have HBT := Lib.hid hbt
        have h11' : (r.2 == 11) = false := by simpa using h11
        clear h2 g2 hst hq c0 c0' h11 hbt
        go_wp2
        go_roundg (n - (k + 1))
        case measure => omega
        case rel => exact ⟨rfl, k + 1, r.1, hkn, rfl, by go_num, H2, G2, hinv, HBT⟩
    · have hkl : ¬ k < l.length := by rw [← HN.out]; exact hkn
      have hv : eofM s = b := by rw [← hM.out, goM_end hkl]
      have HE := Lib.hid (eofS S B k s wr hS.out hI.out (by omega))
      rw [hv] at HE
      have HV := Lib.hid hv
      clear hS hI hM c0 hv hkl
      cases b
      · go_wp2_with fail
        refine HE.out.mono ?_
        rintro e w2 ⟨s', rfl, h2, g2, her⟩
        obtain ⟨x, c3, _, e2⟩ := h2.c3
        obtain ⟨p, rfl, hp⟩ := e2 (her rfl)
        have H2 := Lib.hid h2
        have G2 := Lib.hid (hG.out.trans g2)
        clear h2 g2 her e2
        go_wp2
        go_ret
        exact ⟨_, s', rfl, H2.out, G2.out, (fun z => by cases z), fun _ => ⟨p, rfl, hp⟩⟩
      · go_wp2_with fail
        refine HE.out.mono ?_
        rintro e w2 ⟨s', rfl, h2, g2, her⟩
        have H2 := Lib.hid h2
        have G2 := Lib.hid (hG.out.trans g2)
        clear h2 g2 her
        go_wp2
        go_ret
        exact ⟨_, s', rfl, H2.out, G2.out, fun _ => rfl, fun z => by cases z⟩
end Go.Proofs.YtklncgmfbflooaaDoor
