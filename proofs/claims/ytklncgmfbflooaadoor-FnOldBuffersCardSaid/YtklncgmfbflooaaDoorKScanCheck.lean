/- The old scanner beside a block that stays: the end of a text, and the scanner given back: walked. -/
import Derived.Test.YtklncgmfbflooaaDoorKScanStep
import Derived.Test.YtklncgmfbflooaaDoorScanCheck
import Derived.Defers
import Derived.Recover
namespace Go.Proofs.YtklncgmfbflooaaDoor
open Go.RowKit
theorem freeD (S B : Nat) (s : Cfg) (u : FrameMode) (w : World) (h : ScAt w S B s) :
    CallsD Tryd.prog 73 #[.pointer (some ⟨S, 0, none⟩)] u w fun e u' w' => u' = u ∧ (e = .returned (.tuple #[]) ∧ Gr2 B w w' S S) := by
  obtain ⟨v, c2, o2⟩ := h.c2
  obtain ⟨p, c, rfl⟩ := ownsRow_form o2
  have f2 := h.fz 2
  clear h o2
  generalize s.st.length = n at c2
  go_enter_d Tryd.func73, Tryd.ntmps73
  go_wp2
  all_goals go_end0
  · exact ⟨rfl, (Gr2.refl B _ S S).set _ (q := ⟨S, 2, none⟩) (.inl rfl)⟩
  · exact ⟨rfl, Gr2.refl B _ S S⟩
end Go.Proofs.YtklncgmfbflooaaDoor
namespace Go.Proofs.YtklncgmfbflooaaDoor.Kp
open Go.RowKit
variable [K : Keep]
/-- What the end of a text tells. -/
def EofPost (b : Bool) (S B : Nat) (w : World) (e : Ending) (w' : World) : Prop :=
  ∃ s', e = .returned (.int .i64 (if b = true then 10 else 11)) ∧ ScAt w' S B s' ∧ Gr2 B w w' S S ∧ (b = false → s'.er = true)
set_option maxRecDepth 100000 in
set_option maxHeartbeats 2000000 in
theorem eofS (S B k : Nat) (s : Cfg) (w : World) (h : ScAt w S B s) (hi : InvC s k) (hk : k < 10000) :
    Calls Tryd.prog 71 #[.pointer (some ⟨S, 0, none⟩)] w (EofPost (eofM s) S B w) := by
  obtain ⟨x, c3, e1, e2⟩ := h.c3
  have c0 := h.c0
  have c1 := h.c1
  have H := Lib.hid h
  have hst : Hid (Calls Tryd.prog (fid s.q) #[.pointer (some ⟨S, 0, none⟩), .int .u8 32] w (StepPost S B (stepM s.q s 32) w)) := Lib.hid (stepS s.q S B s 32 w h ⟨hi.el, Nat.lt_of_le_of_lt hi.len hk⟩ (by decide) hi.bse)
  have hq := enterQ s.q
  by_cases her : s.er = true
  · obtain ⟨p, rfl, _⟩ := e2 her
    have hv : eofM s = false := by unfold eofM; rw [if_pos her]
    rw [hv]
    clear h e1 e2 hv hst hq
    go_enter Tryd.func71, Tryd.ntmps71
    go_wp2
    go_ret
    exact ⟨s, rfl, H.out, Gr2.refl B _ S S, fun _ => her⟩
  · have hef : s.er = false := by cases e : s.er <;> simp_all
    obtain rfl := e1 hef
    by_cases htop : s.top = true
    · have hv : eofM s = true := by unfold eofM; rw [if_neg her, if_pos htop]
      rw [hv]
      rw [htop] at c1
      clear h e1 e2 hst hq
      go_enter Tryd.func71, Tryd.ntmps71
      go_wp2
      go_ret
      exact ⟨s, rfl, H.out, Gr2.refl B _ S S, fun z => by cases z⟩
    · have htf : s.top = false := by cases e : s.top <;> simp_all
      have hv : eofM s = (stepM s.q s 32).1.top := by unfold eofM; rw [if_neg her, if_neg htop]
      rw [hv]
      rw [htf] at c1
      generalize stepM s.q s 32 = r at hst
      generalize fid s.q = fq at c0 hst hq
      obtain ⟨⟨q', st', top', er'⟩, code⟩ := r
      clear h e1 e2 her hef htop htf hv
      cases top'
      · cases er'
        · go_enter Tryd.func71, Tryd.ntmps71
          go_wp2_with fail
          refine hst.out.mono ?_
          rintro e w2 ⟨rfl, h2, g2⟩
          obtain ⟨x', c3', e1', e2'⟩ := h2.c3
          obtain rfl := e1' rfl
          obtain ⟨n4, c4'⟩ := h2.c4
          have c1' := h2.c1
          have H2 := Lib.hid h2
          have G2 := Lib.hid g2
          have hle := h2.le
          have HA := Lib.hid (h2.alloc (Obj.cells #[.string ⟨#[117, 110, 101, 120, 112, 101, 99, 116, 101, 100, 32, 101, 110, 100, 32, 111, 102, 32, 74, 83, 79, 78, 32, 105, 110, 112, 117, 116]⟩, .int .i64 n4] 98))
          obtain ⟨x6, c6, _⟩ := HA.out.c3
          have f6 := HA.out.fz 3
          clear h2 g2 e1' e2' hst hq
          go_wp2
          go_ret
          exact ⟨_, rfl, HA.out.setErr _ hle (syn_new _ _ _ _ rfl), (G2.out.alloc hle _).set _ (q := ⟨S, 3, none⟩) (.inl rfl), fun _ => rfl⟩
        · go_enter Tryd.func71, Tryd.ntmps71
          go_wp2_with fail
          refine hst.out.mono ?_
          rintro e w2 ⟨rfl, h2, g2⟩
          obtain ⟨x', c3', e1', e2'⟩ := h2.c3
          obtain ⟨p, rfl, _⟩ := e2' rfl
          have c1' := h2.c1
          have H2 := Lib.hid h2
          have G2 := Lib.hid g2
          clear h2 g2 e1' e2' hst hq
          go_wp2
          go_ret
          exact ⟨_, rfl, H2.out, G2.out, fun _ => rfl⟩
      · go_enter Tryd.func71, Tryd.ntmps71
        go_wp2_with fail
        refine hst.out.mono ?_
        rintro e w2 ⟨rfl, h2, g2⟩
        have c1' := h2.c1
        have H2 := Lib.hid h2
        have G2 := Lib.hid g2
        clear h2 g2 hst hq
        go_wp2
        go_ret
        exact ⟨_, rfl, H2.out, G2.out, fun z => by cases z⟩

theorem freeD (S B : Nat) (s : Cfg) (u : FrameMode) (w : World) (h : ScAt w S B s) :
    CallsD Tryd.prog 73 #[.pointer (some ⟨S, 0, none⟩)] u w fun e u' w' => u' = u ∧ (e = .returned (.tuple #[]) ∧ Gr2 B w w' S S) := by
  obtain ⟨v, c2, o2⟩ := h.c2
  obtain ⟨p, c, rfl⟩ := ownsRow_form o2
  have f2 := h.fz 2
  clear h o2
  generalize s.st.length = n at c2
  go_enter_d Tryd.func73, Tryd.ntmps73
  go_wp2
  all_goals go_end0
  · exact ⟨rfl, (Gr2.refl B _ S S).set _ (q := ⟨S, 2, none⟩) (.inl rfl)⟩
  · exact ⟨rfl, Gr2.refl B _ S S⟩
end Go.Proofs.YtklncgmfbflooaaDoor.Kp
