/- The old scanner beside a block that stays: the ends of values, its stack: walked. -/
import Derived.Test.YtklncgmfbflooaaDoorKScanAt
import Derived.Test.YtklncgmfbflooaaDoorScanEnd
namespace Go.Proofs.YtklncgmfbflooaaDoor.Kp
open Go.RowKit
variable [K : Keep]
theorem ScAt.setSt {w : World} {S B : Nat} {s : Cfg} (h : ScAt w S B s) (v' : Value) (st' : List Int) (o : w.ownsRow B 3 1 v' st'.length (stackC st')) (hd : v'.ownBlock ≠ some K.D) : ScAt (w.setCell ⟨S, 2, none⟩ v') S B { s with st := st' } := by
  obtain ⟨v, h2, o2⟩ := h.c2
  obtain ⟨x, h3, e1, e2⟩ := h.c3
  obtain ⟨n, h4⟩ := h.c4
  exact ⟨(World.cell?_setCell_other _ _ _ _ (by simp)).trans h.c0, (World.cell?_setCell_other _ _ _ _ (by simp)).trans h.c1, ⟨v', World.cell?_setCell_same _ _ _ h2, ownsRow_setCell_below o h.lt _⟩, ⟨x, (World.cell?_setCell_other _ _ _ _ (by simp)).trans h3, e1, syn_kept e2 (syn_set h.lt _ _)⟩, ⟨n, (World.cell?_setCell_other _ _ _ _ (by simp)).trans h4⟩, fun j => by rw [World.frozen?_setCell]; exact h.fz j, h.lt, by simpa [World.setCell] using h.le, fun u hu => by rw [World.cell?_setCell_same _ _ _ h2] at hu; exact Option.some.inj hu ▸ hd, by simpa [World.setCell] using h.dl, h.ds⟩
/-- A cell of the stack's row is written. -/
theorem ScAt.setRow {w : World} {S B g n cap : Nat} {s : Cfg} (h : ScAt w S B s) (p x : Int) (r : List Int) (hs : s.st = p :: r) (hv : w.cell? ⟨S, 2, none⟩ = some (.slice (some ⟨g, 0, none⟩) n cap)) : ScAt (w.setCell ⟨g, r.length, none⟩ (.int .i64 x)) S B { s with st := x :: r } := by
  obtain ⟨v, h2, o2⟩ := h.c2
  obtain ⟨y, h3, e1, e2⟩ := h.c3
  obtain ⟨k, h4⟩ := h.c4
  obtain rfl : v = .slice (some ⟨g, 0, none⟩) n cap := Option.some.inj (h2.symm.trans hv)
  rw [hs] at o2
  obtain ⟨p0, c0, hf⟩ := ownsRow_form o2
  injection hf with hf1 hf2 hf3
  subst hf2
  have hBg : B ≤ g := (o2.lt g rfl).1
  have hlt := h.lt
  have hb : (w.setCell ⟨g, r.length, none⟩ (.int .i64 x)).heap[S]? = w.heap[S]? := Below.heap_setCell _ _ _ _ (by show S ≠ g; omega)
  have o3 := (o2.stored r.length (.int .i64 x)).1
  rw [stackC_set] at o3
  exact ⟨(World.cell?_of_block (a := ⟨S, 0, none⟩) hb).trans h.c0, (World.cell?_of_block (a := ⟨S, 1, none⟩) hb).trans h.c1, ⟨_, (World.cell?_of_block (a := ⟨S, 2, none⟩) hb).trans h2, o3⟩, ⟨y, (World.cell?_of_block (a := ⟨S, 3, none⟩) hb).trans h3, e1, syn_kept e2 (fun q _ hq => Below.heap_setCell _ _ _ _ (by show q ≠ g; intro e; subst e; exact syn_row hq o2))⟩, ⟨k, (World.cell?_of_block (a := ⟨S, 4, none⟩) hb).trans h4⟩, fun j => (World.frozen?_of_block (a := ⟨S, j, none⟩) hb).trans (h.fz j), h.lt, by simpa [World.setCell] using h.le, fun u hu => h.dr u ((World.cell?_of_block (a := ⟨S, 2, none⟩) hb).symm.trans hu), by simpa [World.setCell] using h.dl, h.ds⟩
/-- The stack's value where it holds something. -/
theorem ScAt.stack {w : World} {S B : Nat} {s : Cfg} (h : ScAt w S B s) (p : Int) (r : List Int) (hs : s.st = p :: r) : ∃ g cap, w.cell? ⟨S, 2, none⟩ = some (.slice (some ⟨g, 0, none⟩) (r.length + 1) cap) ∧ r.length + 1 ≤ cap ∧ w.cell? ⟨g, r.length, none⟩ = some (.int .i64 p) ∧ w.frozen? ⟨g, r.length, none⟩ = false ∧ B ≤ g ∧ w.ownsRow B 3 1 (.slice (some ⟨g, 0, none⟩) (r.length + 1) cap) (p :: r).length (stackC (p :: r)) := by
  obtain ⟨v, h2, o2⟩ := h.c2
  rw [hs] at o2
  obtain ⟨g, cap, rfl, hb, hg⟩ := o2.form (by simp)
  have hc : r.length + 1 ≤ cap := by
    rcases o2.2 with ⟨q, _⟩ | ⟨g', cap', cur, q, _, _, hn, _⟩
    · cases q
    · injection q with _ _ q3
      subst q3
      exact hn
  refine ⟨g, cap, h2, hc, ?_, o2.frozenAt _, hb, o2⟩
  rw [o2.cellAt r.length (by simp)]
  exact stackC_top p r
theorem ScAt.empty {w : World} {S B : Nat} {s : Cfg} (h : ScAt w S B s) (hs : s.st = []) : ∃ p c, w.cell? ⟨S, 2, none⟩ = some (.slice p 0 c) := by
  obtain ⟨v, h2, o2⟩ := h.c2
  rw [hs] at o2
  obtain ⟨p, c, hv⟩ := ownsRow_form o2
  exact ⟨p, c, by rw [h2, hv]; rfl⟩
theorem endTopS (S B : Nat) (s : Cfg) (c : Int) (w : World) (h : ScAt w S B s) :
    Calls Tryd.prog 118 #[.pointer (some ⟨S, 0, none⟩), .int .u8 c] w (StepPost S B (endTopM s c) w) := by
  have H := Lib.hid h
  have HI := Lib.hid (isSpaceO c)
  have HE : Hid (∀ m W, ScAt W S B s → m.size ≤ 100 → Calls Tryd.prog 106 #[.pointer (some ⟨S, 0, none⟩), .int .u8 c, .string m] W (StepPost S B (errM s) W)) := Lib.hid fun m W a b => errS S B s c m W a b
  clear h
  by_cases q : isSp c
  · have e : endTopM s c = (s, 10) := by unfold endTopM; rw [if_pos q]
    rw [e]
    have hd : decide (isSp c) = true := decide_eq_true q
    rw [hd] at HI
    clear q e hd
    go_enter Tryd.func118, Tryd.ntmps118
    go_wp2_with fail
    refine (HI.out _).mono ?_
    rintro e w1 ⟨rfl, rfl⟩
    go_wp2
    go_ret
    exact ⟨rfl, H.out, gs_refl B S _⟩
  · have e : endTopM s c = (s.fault, 10) := by unfold endTopM; rw [if_neg q]
    rw [e]
    have hd : decide (isSp c) = false := decide_eq_false q
    rw [hd] at HI
    clear q e hd
    go_enter Tryd.func118, Tryd.ntmps118
    go_wp2_with fail
    refine (HI.out _).mono ?_
    rintro e w1 ⟨rfl, rfl⟩
    go_wp2_with fail
    refine (HE.out _ _ H.out (by decide)).mono ?_
    rintro e w2 ⟨rfl, h2, g2⟩
    have H2 := Lib.hid h2
    have G2 := Lib.hid g2
    clear h2 g2
    go_wp2
    go_ret
    exact ⟨rfl, H2.out, G2.out⟩
set_option maxRecDepth 100000 in
theorem popS (S B : Nat) (s : Cfg) (p : Int) (r : List Int) (hs : s.st = p :: r) (hl : r.length ≤ 10000) (w : World) (h : ScAt w S B s) :
    Calls Tryd.prog 119 #[.pointer (some ⟨S, 0, none⟩)] w fun e w' => e = .returned (.tuple #[]) ∧ ScAt w' S B (popM s) ∧ Gr2 B w w' S S := by
  obtain ⟨g, cap, c2, hcap, _, _, hBg, o2⟩ := h.stack p r hs
  have H := Lib.hid h
  have c0 := h.c0
  have c1 := h.c1
  have f0 := h.fz 0
  have f1 := h.fz 1
  have f2 := h.fz 2
  have H1 := Lib.hid (h.setSt _ r (own_pop o2) (fun e => h.dr _ c2 e))
  have G1 := Lib.hid ((Gr2.refl B w S S).set (.slice (some ⟨g, 0, none⟩) r.length cap) (q := ⟨S, 2, none⟩) (.inl rfl))
  clear h o2
  by_cases r0 : r = []
  · subst r0
    have HP := Lib.hid (popM_one hs)
    clear hl
    simp only [List.length_nil] at c2 H1 G1 hcap
    go_enter Tryd.func119, Tryd.ntmps119
    go_wp2
    go_end0
    rw [HP.out]
    exact ⟨rfl, (H1.out.setQ .ET).setTop true, (G1.out.set _ (q := ⟨S, 0, none⟩) (.inl rfl)).set _ (q := ⟨S, 1, none⟩) (.inl rfl)⟩
  · have hr1 : 0 < r.length := List.length_pos_iff.2 r0
    have HP := Lib.hid (popM_more hs r0)
    clear r0
    generalize hn : r.length = n at *
    have b0 : ((n : Int) == 0) = false := by simp; omega
    go_enter Tryd.func119, Tryd.ntmps119
    go_wp2
    go_end0
    rw [HP.out]
    exact ⟨rfl, H1.out.setQ .EV, G1.out.set _ (q := ⟨S, 0, none⟩) (.inl rfl)⟩
set_option maxRecDepth 100000 in
set_option maxHeartbeats 2000000 in
theorem endValS (S B : Nat) (s : Cfg) (c : Int) (w : World) (h : ScAt w S B s) (hp : ∀ x ∈ s.st, x = 0 ∨ x = 1 ∨ x = 2) (hl : s.st.length ≤ 10000) :
    Calls Tryd.prog 108 #[.pointer (some ⟨S, 0, none⟩), .int .u8 c] w (StepPost S B (endValM s c) w) := by
  have H := Lib.hid h
  have HI := Lib.hid (isSpaceO c)
  have HE : Hid (∀ m W, ScAt W S B s → m.size ≤ 100 → Calls Tryd.prog 106 #[.pointer (some ⟨S, 0, none⟩), .int .u8 c, .string m] W (StepPost S B (errM s) W)) := Lib.hid fun m W a b => errS S B s c m W a b
  have c0 := h.c0
  have c1 := h.c1
  have f0 := h.fz 0
  have f1 := h.fz 1
  have f2 := h.fz 2
  by_cases hs : s.st = []
  · obtain ⟨v0, q0, c2⟩ := h.empty hs
    rw [endValM_nil hs]
    have HT : Hid (∀ W, ScAt W S B { s with q := .ET, top := true } → Calls Tryd.prog 118 #[.pointer (some ⟨S, 0, none⟩), .int .u8 c] W (StepPost S B (endTopM { s with q := .ET, top := true } c) W)) := Lib.hid fun W a => endTopS S B _ c W a
    have H1 := Lib.hid ((h.setQ .ET).setTop true)
    have G1 := Lib.hid (((Gr2.refl B w S S).set (.func (.func (fid .ET)) #[] #[]) (q := ⟨S, 0, none⟩) (.inl rfl)).set (.bool true) (q := ⟨S, 1, none⟩) (.inl rfl))
    clear h hs hp hl
    go_enter Tryd.func108, Tryd.ntmps108
    go_wp2_with fail
    refine (HT.out _ H1.out).mono ?_
    rintro e w2 ⟨rfl, h2, g2⟩
    have H2 := Lib.hid h2
    have G2 := Lib.hid (G1.out.trans g2)
    clear h2 g2
    go_wp2
    go_ret
    exact ⟨rfl, H2.out, G2.out⟩
  · obtain ⟨p, r, hs2⟩ : ∃ p r, s.st = p :: r := by
      cases e : s.st with
      | nil => exact absurd e hs
      | cons p r => exact ⟨p, r, rfl⟩
    have hp0 := hp p (by rw [hs2]; exact List.mem_cons_self)
    rw [hs2, List.length_cons] at hl
    obtain ⟨g, cap, c2, hcap, ct, cf, hBg, _⟩ := h.stack p r hs2
    rw [endValM_cons hs2]
    have HPOP : Hid (∀ W, ScAt W S B s → Calls Tryd.prog 119 #[.pointer (some ⟨S, 0, none⟩)] W fun e w' => e = .returned (.tuple #[]) ∧ ScAt w' S B (popM s) ∧ Gr2 B W w' S S) := Lib.hid fun W a => popS S B s p r hs2 (by omega) W a
    have HROW : Hid (∀ x, ScAt (w.setCell ⟨g, r.length, none⟩ (.int .i64 x)) S B { s with st := x :: r }) := Lib.hid fun x => h.setRow p x r hs2 c2
    have GROW : Hid (∀ x, Gr2 B w (w.setCell ⟨g, r.length, none⟩ (.int .i64 x)) S S) := Lib.hid fun x => (Gr2.refl B w S S).set _ (q := ⟨g, r.length, none⟩) (.inr (.inr ⟨hBg, fun e => h.dr _ c2 (congrArg some e.symm)⟩))
    have hgS : ¬ g = S := by have := h.lt; omega
    have hSg : ¬ S = g := fun e => hgS e.symm
    clear hs hp hs2
    generalize hn : r.length = n at *
    have hn0 : (0 : Int) ≤ (n : Int) := by omega
    have hn1 : (n : Int) < (n : Int) + 1 := by omega
    have hnz : ((n : Int) + 1 == 0) = false := by simp; omega
    by_cases q : isSp c
    · rw [if_pos q]
      have hd : decide (isSp c) = true := decide_eq_true q
      rw [hd] at HI
      clear q hd h
      go_enter Tryd.func108, Tryd.ntmps108
      go_wp2_with fail
      refine (HI.out _).mono ?_
      rintro e w1 ⟨rfl, rfl⟩
      go_wp2
      go_ret
      exact ⟨rfl, H.out.setQ .EV, (Gr2.refl B _ S S).set _ (q := ⟨S, 0, none⟩) (.inl rfl)⟩
    · rw [if_neg q]
      have hd : decide (isSp c) = false := decide_eq_false q
      rw [hd] at HI
      clear q hd h
      rcases hp0 with rfl | rfl | rfl
      · rw [if_pos rfl]
        by_cases a : c = 58
        · subst a
          rw [if_pos rfl]
          go_enter Tryd.func108, Tryd.ntmps108
          go_wp2_with fail
          refine (HI.out _).mono ?_
          rintro e w1 ⟨rfl, rfl⟩
          go_wp2
          go_ret
          exact ⟨rfl, (HROW.out 1).setQ .BV, (GROW.out 1).set _ (q := ⟨S, 0, none⟩) (.inl rfl)⟩
        · rw [if_neg a]
          have b1 : (c == 58) = false := by simpa using a
          clear a
          go_enter Tryd.func108, Tryd.ntmps108
          go_wp2_with fail
          refine (HI.out _).mono ?_
          rintro e w1 ⟨rfl, rfl⟩
          go_wp2_with fail
          refine (HE.out _ _ H.out (by decide)).mono ?_
          rintro e w2 ⟨rfl, h2, g2⟩
          have H2 := Lib.hid h2
          have G2 := Lib.hid g2
          clear h2 g2
          go_wp2
          go_ret
          exact ⟨rfl, H2.out, G2.out⟩
      · rw [if_neg (by decide), if_pos rfl]
        by_cases a : c = 44
        · subst a
          rw [if_pos rfl]
          go_enter Tryd.func108, Tryd.ntmps108
          go_wp2_with fail
          refine (HI.out _).mono ?_
          rintro e w1 ⟨rfl, rfl⟩
          go_wp2
          go_ret
          exact ⟨rfl, (HROW.out 0).setQ .BS, (GROW.out 0).set _ (q := ⟨S, 0, none⟩) (.inl rfl)⟩
        · rw [if_neg a]
          have b1 : (c == 44) = false := by simpa using a
          by_cases a2 : c = 125
          · subst a2
            rw [if_pos rfl]
            clear a
            go_enter Tryd.func108, Tryd.ntmps108
            go_wp2_with fail
            refine (HI.out _).mono ?_
            rintro e w1 ⟨rfl, rfl⟩
            go_wp2_with fail
            refine (HPOP.out _ H.out).mono ?_
            rintro e w2 ⟨rfl, h2, g2⟩
            have H2 := Lib.hid h2
            have G2 := Lib.hid g2
            clear h2 g2
            go_wp2
            go_ret
            exact ⟨rfl, H2.out, G2.out⟩
          · rw [if_neg a2]
            have b2 : (c == 125) = false := by simpa using a2
            clear a a2
            go_enter Tryd.func108, Tryd.ntmps108
            go_wp2_with fail
            refine (HI.out _).mono ?_
            rintro e w1 ⟨rfl, rfl⟩
            go_wp2_with fail
            refine (HE.out _ _ H.out (by decide)).mono ?_
            rintro e w2 ⟨rfl, h2, g2⟩
            have H2 := Lib.hid h2
            have G2 := Lib.hid g2
            clear h2 g2
            go_wp2
            go_ret
            exact ⟨rfl, H2.out, G2.out⟩
      · rw [if_neg (by decide), if_neg (by decide)]
        by_cases a : c = 44
        · subst a
          rw [if_pos rfl]
          go_enter Tryd.func108, Tryd.ntmps108
          go_wp2_with fail
          refine (HI.out _).mono ?_
          rintro e w1 ⟨rfl, rfl⟩
          go_wp2
          go_ret
          exact ⟨rfl, H.out.setQ .BV, (Gr2.refl B _ S S).set _ (q := ⟨S, 0, none⟩) (.inl rfl)⟩
        · rw [if_neg a]
          have b1 : (c == 44) = false := by simpa using a
          by_cases a2 : c = 93
          · subst a2
            rw [if_pos rfl]
            clear a
            go_enter Tryd.func108, Tryd.ntmps108
            go_wp2_with fail
            refine (HI.out _).mono ?_
            rintro e w1 ⟨rfl, rfl⟩
            go_wp2_with fail
            refine (HPOP.out _ H.out).mono ?_
            rintro e w2 ⟨rfl, h2, g2⟩
            have H2 := Lib.hid h2
            have G2 := Lib.hid g2
            clear h2 g2
            go_wp2
            go_ret
            exact ⟨rfl, H2.out, G2.out⟩
          · rw [if_neg a2]
            have b2 : (c == 93) = false := by simpa using a2
            clear a a2
            go_enter Tryd.func108, Tryd.ntmps108
            go_wp2_with fail
            refine (HI.out _).mono ?_
            rintro e w1 ⟨rfl, rfl⟩
            go_wp2_with fail
            refine (HE.out _ _ H.out (by decide)).mono ?_
            rintro e w2 ⟨rfl, h2, g2⟩
            have H2 := Lib.hid h2
            have G2 := Lib.hid g2
            clear h2 g2
            go_wp2
            go_ret
            exact ⟨rfl, H2.out, G2.out⟩
set_option maxRecDepth 100000 in
theorem pushS (S B : Nat) (s : Cfg) (c x code : Int) (w : World) (h : ScAt w S B s) (hl : s.st.length < 10000) :
    Calls Tryd.prog 97 #[.pointer (some ⟨S, 0, none⟩), .int .u8 c, .int .i64 x, .int .i64 code] w (StepPost S B ({ s with st := x :: s.st }, code) w) := by
  obtain ⟨v, c2, o2⟩ := h.c2
  obtain ⟨p, cap, rfl⟩ := ownsRow_form o2
  obtain ⟨i0, hi, hz0, hz1, hz2⟩ := info_parts intInfo
  have H := Lib.hid h
  have HO := Lib.hid o2
  have f2 := h.fz 2
  have hle := h.le
  have hlt := h.lt
  have HW : Hid (∀ (g cap' : Nat) (w5 : World), w5.ownsRow B 3 1 (.slice (some ⟨g, 0, none⟩) (s.st.length + 1) cap') (s.st.length + 1) (stackC s.st ++ [.int .i64 x]) → w.grownBy w5 (Value.slice p s.st.length cap).ownBlock → ((Value.slice p s.st.length cap).ownBlock = some g ∨ g = w.heap.size + 1) → ScAt (w5.setCell ⟨S, 2, none⟩ (.slice (some ⟨g, 0, none⟩) (s.st.length + 1) cap')) S B { s with st := x :: s.st } ∧ Gr2 B w w5 S S ∧ w5.cell? ⟨S, 2, none⟩ = some (.slice p s.st.length cap) ∧ w5.frozen? ⟨S, 2, none⟩ = false) :=
    Lib.hid fun g cap' w5 o5 hg hat => by
      have hb : w5.heap[S]? = w.heap[S]? := hg.block S (by omega) (fun e => by have := (o2.lt S e.symm).1; omega)
      obtain ⟨y, h3, e1, e2⟩ := h.c3
      obtain ⟨k, h4⟩ := h.c4
      rw [← stackC_push] at o5
      refine ⟨⟨(World.cell?_setCell_other _ _ _ _ (by simp)).trans ((World.cell?_of_block (a := ⟨S, 0, none⟩) hb).trans h.c0), (World.cell?_setCell_other _ _ _ _ (by simp)).trans ((World.cell?_of_block (a := ⟨S, 1, none⟩) hb).trans h.c1), ⟨_, World.cell?_setCell_same _ _ _ ((World.cell?_of_block (a := ⟨S, 2, none⟩) hb).trans c2), ownsRow_setCell_below o5 h.lt _⟩, ⟨y, (World.cell?_setCell_other _ _ _ _ (by simp)).trans ((World.cell?_of_block (a := ⟨S, 3, none⟩) hb).trans h3), e1, syn_kept e2 (fun q hq hs => (Below.heap_setCell _ _ _ _ (by show q ≠ S; have := h.lt; omega)).trans (hg.block q hs.lt (fun e => by
        have e2 : (Value.slice p s.st.length cap).ownBlock = some q := e.symm
        match p, o2, e2 with
        | some a, o2, e2 =>
          obtain ⟨p0, c0, hf⟩ := ownsRow_form o2
          injection hf with hf1 _ _
          have ea : a.block = q := Option.some.inj e2
          cases o2.2 with
          | inl z => exact absurd z.1 (by simp)
          | inr z =>
            obtain ⟨g9, c9, u9, z1, _⟩ := z
            injection z1 with z2
            injection z2 with z2
            subst z2
            have ea2 : g9 = q := ea
            subst ea2
            exact syn_row hs o2
        | none, _, e2 => cases e2)))⟩, ⟨k, (World.cell?_setCell_other _ _ _ _ (by simp)).trans ((World.cell?_of_block (a := ⟨S, 4, none⟩) hb).trans h4)⟩, fun j => by rw [World.frozen?_setCell]; exact (World.frozen?_of_block (a := ⟨S, j, none⟩) hb).trans (h.fz j), h.lt, by simpa [World.setCell] using Nat.le_trans h.le hg.size, fun u hu => by
        rw [World.cell?_setCell_same _ _ _ ((World.cell?_of_block (a := ⟨S, 2, none⟩) hb).trans c2)] at hu
        have hu' := Option.some.inj hu
        subst hu'
        intro e
        have e' : g = K.D := Option.some.inj e
        have hdl := h.dl
        rcases hat with q | q
        · exact h.dr _ c2 (q.trans (congrArg some e'))
        · omega, by simpa [World.setCell] using Nat.lt_of_lt_of_le h.dl hg.size, h.ds⟩,
        Gr2.row h.le hg (fun g e => (o2.lt g e).1) (h.dr _ c2), (World.cell?_of_block (a := ⟨S, 2, none⟩) hb).trans c2, (World.frozen?_of_block (a := ⟨S, 2, none⟩) hb).trans (h.fz 2)⟩
  clear h o2
  generalize hn : s.st.length = n at *
  go_enter Tryd.func97, Tryd.ntmps97
  go_wp2_with (at_builtin; refine wpList_append_lies _ rfl _ _ _ rfl B 3 i0 _ 1 8 Tryd.underlying115 hi hz0 hz1 hz2 rfl (by omega) (.slice p n cap) n (stackC s.st) rfl (HO.out.alloc _) ⟨w.heap.size, 0, none⟩ 1 1 [.int .i64 x] rfl rfl (World.news_of_block (cs := #[.int .i64 x]) (t := 3) (fr := (0, 0)) (heap_alloc_new _ _)) (by simp [Value.oneCell']) (by omega) (by simp [maxLen]; omega) (by omega) (by simp; omega) (w.heap.size + 1) (by simp) ?_)
  intro g cap' w5 hown hgrow hat hlt2
  obtain ⟨HA, HG, k2, kf⟩ := HW.out g cap' w5 hown (grow_trans (World.grownBy_alloc w _ _) hgrow) hat
  have HA' := Lib.hid HA
  have HG' := Lib.hid HG
  clear hown hgrow hat HA HG
  have hle2 : ((n : Int) + 1) ≤ 10000 := by omega
  go_wp2
  go_ret
  exact ⟨rfl, HA'.out, HG'.out.set _ (q := ⟨S, 2, none⟩) (.inl rfl)⟩
end Go.Proofs.YtklncgmfbflooaaDoor.Kp
