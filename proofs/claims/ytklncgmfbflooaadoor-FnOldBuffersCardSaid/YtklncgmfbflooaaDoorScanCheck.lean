/- The old scanner: its beginning, its end, and a whole text checked: walked. -/
import Derived.Test.YtklncgmfbflooaaDoorScanStep
import Derived.Test.YtklncgmfbflooaaDoorScanInv
import Derived.Test.YtklncgmfbflooaaDoorBytes
import Derived.Deep.LoopGhost
namespace Go.Proofs.YtklncgmfbflooaaDoor
open Go.RowKit
/-- A scanner's block, whatever its step; its stack is empty. -/
structure ScRaw (w : World) (S B : Nat) : Prop where
  c0 : ∃ v, w.cell? ⟨S, 0, none⟩ = some v
  c1 : ∃ b, w.cell? ⟨S, 1, none⟩ = some (.bool b)
  c2 : ∃ v, w.cell? ⟨S, 2, none⟩ = some v ∧ w.ownsRow B 3 1 v 0 []
  c3 : ∃ v, w.cell? ⟨S, 3, none⟩ = some v
  c4 : ∃ n, w.cell? ⟨S, 4, none⟩ = some (.int .i64 n)
  fz : ∀ j, w.frozen? ⟨S, j, none⟩ = false
  lt : S < B
  le : B ≤ w.heap.size
theorem ScAt.raw {w : World} {S B : Nat} {s : Cfg} (h : ScAt w S B s) (hs : s.st = []) : ScRaw w S B := by
  obtain ⟨v, h2, o2⟩ := h.c2
  obtain ⟨x, h3, _⟩ := h.c3
  rw [hs] at o2
  exact ⟨⟨_, h.c0⟩, ⟨_, h.c1⟩, ⟨v, h2, o2⟩, ⟨x, h3⟩, h.c4, h.fz, h.lt, h.le⟩
def c0C : Cfg := ⟨.BV, [], false, false⟩
set_option maxRecDepth 100000 in
theorem resetS (S B : Nat) (w : World) (h : ScRaw w S B) :
    Calls Tryd.prog 70 #[.pointer (some ⟨S, 0, none⟩)] w fun e w' => e = .returned (.tuple #[]) ∧ ScAt w' S B c0C ∧ Gr2 B w w' S S := by
  obtain ⟨v0, h0⟩ := h.c0
  obtain ⟨b1, h1⟩ := h.c1
  obtain ⟨v2, h2, o2⟩ := h.c2
  obtain ⟨x3, h3⟩ := h.c3
  obtain ⟨n4, h4⟩ := h.c4
  have f0 := h.fz 0
  have f1 := h.fz 1
  have f2 := h.fz 2
  have f3 := h.fz 3
  have hfin : ∀ v2', w.ownsRow B 3 1 v2' 0 [] → Hid (ScAt ((((w.setCell ⟨S, 0, none⟩ (.func (.func 88) #[] #[])).setCell ⟨S, 2, none⟩ v2').setCell ⟨S, 3, none⟩ .nilIface).setCell ⟨S, 1, none⟩ (.bool false)) S B c0C) := fun v2' o => Lib.hid (by
    refine ⟨?_, ?_, ⟨v2', ?_, ?_⟩, ⟨.nilIface, ?_, fun _ => rfl, (fun q => by cases q)⟩, ⟨n4, ?_⟩, fun j => ?_, h.lt, ?_⟩
    · rw [World.cell?_setCell_other _ _ _ _ (by simp), World.cell?_setCell_other _ _ _ _ (by simp), World.cell?_setCell_other _ _ _ _ (by simp)]
      exact World.cell?_setCell_same _ _ _ h0
    · exact World.cell?_setCell_same _ _ _ (by rw [World.cell?_setCell_other _ _ _ _ (by simp), World.cell?_setCell_other _ _ _ _ (by simp), World.cell?_setCell_other _ _ _ _ (by simp)]; exact h1)
    · rw [World.cell?_setCell_other _ _ _ _ (by simp), World.cell?_setCell_other _ _ _ _ (by simp)]
      exact World.cell?_setCell_same _ _ _ (by rw [World.cell?_setCell_other _ _ _ _ (by simp)]; exact h2)
    · exact ownsRow_setCell_below (ownsRow_setCell_below (ownsRow_setCell_below (ownsRow_setCell_below o h.lt _) h.lt _) h.lt _) h.lt _
    · rw [World.cell?_setCell_other _ _ _ _ (by simp)]
      exact World.cell?_setCell_same _ _ _ (by rw [World.cell?_setCell_other _ _ _ _ (by simp), World.cell?_setCell_other _ _ _ _ (by simp)]; exact h3)
    · rw [World.cell?_setCell_other _ _ _ _ (by simp), World.cell?_setCell_other _ _ _ _ (by simp), World.cell?_setCell_other _ _ _ _ (by simp), World.cell?_setCell_other _ _ _ _ (by simp)]
      exact h4
    · rw [World.frozen?_setCell, World.frozen?_setCell, World.frozen?_setCell, World.frozen?_setCell]; exact h.fz j
    · simpa [World.setCell] using h.le)
  have hg : ∀ v2', Hid (Gr2 B w ((((w.setCell ⟨S, 0, none⟩ (.func (.func 88) #[] #[])).setCell ⟨S, 2, none⟩ v2').setCell ⟨S, 3, none⟩ .nilIface).setCell ⟨S, 1, none⟩ (.bool false)) S S) := fun v2' => Lib.hid (((((Gr2.refl B w S S).set _ (q := ⟨S, 0, none⟩) (.inl rfl)).set _ (q := ⟨S, 2, none⟩) (.inl rfl)).set _ (q := ⟨S, 3, none⟩) (.inl rfl)).set _ (q := ⟨S, 1, none⟩) (.inl rfl))
  have HF := Lib.hid hfin
  have HG := Lib.hid hg
  rcases o2.2 with ⟨rfl, _⟩ | ⟨g, cap, cur, rfl, _⟩
  · have HO := Lib.hid o2
    clear h o2 hfin hg
    go_enter Tryd.func70, Tryd.ntmps70
    go_wp2
    go_end0
    exact ⟨rfl, (HF.out _ HO.out).out, (HG.out _).out⟩
  · have HO := Lib.hid o2
    clear h o2 hfin hg
    go_enter Tryd.func70, Tryd.ntmps70
    go_wp2
    go_end0
    exact ⟨rfl, (HF.out _ HO.out).out, (HG.out _).out⟩
theorem enterQ (q : Q) (args : Array Value) (w : World) : Sem.run Tryd.prog (callFunc (fid q) args) w = .ok (.enter (fid q) args) w := by
  cases q <;> simp [fid, go_sem]
/-- What the end of a text tells. -/
def EofPost (b : Bool) (S B : Nat) (w : World) (e : Ending) (w' : World) : Prop :=
  ∃ s', e = .returned (.int .i64 (if b = true then 10 else 11)) ∧ ScAt w' S B s' ∧ Gr2 B w w' S S ∧ (b = false → s'.er = true)
set_option maxRecDepth 100000 in
set_option maxHeartbeats 2000000 in
theorem eofS (S B k : Nat) (s : Cfg) (w : World) (h : ScAt w S B s) (hi : InvC s k) (hk : k < 10000) :
    Calls Tryd.prog 71 #[.pointer (some ⟨S, 0, none⟩)] w (EofPost (eofM s) S B w) := by
  obtain ⟨x, c3, e1, e2⟩ := h.c3
  have c0 := h.c0
  have c1 := h.c1
  have H := Lib.hid h
  have hst : Hid (Calls Tryd.prog (fid s.q) #[.pointer (some ⟨S, 0, none⟩), .int .u8 32] w (StepPost S B (stepM s.q s 32) w)) := Lib.hid (stepS s.q S B s 32 w h ⟨hi.el, Nat.lt_of_le_of_lt hi.len hk⟩ (by decide) hi.bse)
  have hq := enterQ s.q
  by_cases her : s.er = true
  · obtain ⟨p, rfl, _⟩ := e2 her
    have hv : eofM s = false := by unfold eofM; rw [if_pos her]
    rw [hv]
    clear h e1 e2 hv hst hq
    go_enter Tryd.func71, Tryd.ntmps71
    go_wp2
    go_ret
    exact ⟨s, rfl, H.out, Gr2.refl B _ S S, fun _ => her⟩
  · have hef : s.er = false := by cases e : s.er <;> simp_all
    obtain rfl := e1 hef
    by_cases htop : s.top = true
    · have hv : eofM s = true := by unfold eofM; rw [if_neg her, if_pos htop]
      rw [hv]
      rw [htop] at c1
      clear h e1 e2 hst hq
      go_enter Tryd.func71, Tryd.ntmps71
      go_wp2
      go_ret
      exact ⟨s, rfl, H.out, Gr2.refl B _ S S, fun z => by cases z⟩
    · have htf : s.top = false := by cases e : s.top <;> simp_all
      have hv : eofM s = (stepM s.q s 32).1.top := by unfold eofM; rw [if_neg her, if_neg htop]
      rw [hv]
      rw [htf] at c1
      generalize stepM s.q s 32 = r at hst
      generalize fid s.q = fq at c0 hst hq
      obtain ⟨⟨q', st', top', er'⟩, code⟩ := r
      clear h e1 e2 her hef htop htf hv
      cases top'
      · cases er'
        · go_enter Tryd.func71, Tryd.ntmps71
          go_wp2_with fail
          refine hst.out.mono ?_
          rintro e w2 ⟨rfl, h2, g2⟩
          obtain ⟨x', c3', e1', e2'⟩ := h2.c3
          obtain rfl := e1' rfl
          obtain ⟨n4, c4'⟩ := h2.c4
          have c1' := h2.c1
          have H2 := Lib.hid h2
          have G2 := Lib.hid g2
          have hle := h2.le
          have HA := Lib.hid (h2.alloc (Obj.cells #[.string ⟨#[117, 110, 101, 120, 112, 101, 99, 116, 101, 100, 32, 101, 110, 100, 32, 111, 102, 32, 74, 83, 79, 78, 32, 105, 110, 112, 117, 116]⟩, .int .i64 n4] 98))
          obtain ⟨x6, c6, _⟩ := HA.out.c3
          have f6 := HA.out.fz 3
          clear h2 g2 e1' e2' hst hq
          go_wp2
          go_ret
          exact ⟨_, rfl, HA.out.setErr _ hle (syn_new _ _ _ _ rfl), (G2.out.alloc hle _).set _ (q := ⟨S, 3, none⟩) (.inl rfl), fun _ => rfl⟩
        · go_enter Tryd.func71, Tryd.ntmps71
          go_wp2_with fail
          refine hst.out.mono ?_
          rintro e w2 ⟨rfl, h2, g2⟩
          obtain ⟨x', c3', e1', e2'⟩ := h2.c3
          obtain ⟨p, rfl, _⟩ := e2' rfl
          have c1' := h2.c1
          have H2 := Lib.hid h2
          have G2 := Lib.hid g2
          clear h2 g2 e1' e2' hst hq
          go_wp2
          go_ret
          exact ⟨_, rfl, H2.out, G2.out, fun _ => rfl⟩
      · go_enter Tryd.func71, Tryd.ntmps71
        go_wp2_with fail
        refine hst.out.mono ?_
        rintro e w2 ⟨rfl, h2, g2⟩
        have c1' := h2.c1
        have H2 := Lib.hid h2
        have G2 := Lib.hid g2
        clear h2 g2 hst hq
        go_wp2
        go_ret
        exact ⟨_, rfl, H2.out, G2.out, fun z => by cases z⟩
end Go.Proofs.YtklncgmfbflooaaDoor
