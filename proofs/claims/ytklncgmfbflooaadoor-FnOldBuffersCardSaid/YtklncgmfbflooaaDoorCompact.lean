/- jsonscan.appendCompact, walked: it appends what the machine says, if the text is a value. -/
import Derived.Test.YtklncgmfbflooaaDoorScanBuf
import Derived.Test.YtklncgmfbflooaaDoorCmpP
import Derived.Test.YtklncgmfbflooaaDoorCheckValid
import Derived.Test.YtklncgmfbflooaaDoorHtml
import Derived.Test.YtklncgmfbflooaaDoorClose
import Derived.Deep.LoopGhost
import Derived.Deep.DeepCutAuto
import Derived.Deep.CutBlock
import Derived.Deep.CutRange
import Derived.BigQuiet
import Derived.BigRegion
import Derived.Deep.QuietTactic
import Derived.Deep.RegionHeld3
namespace Go.Proofs.YtklncgmfbflooaaDoor
open Go.RowKit
theorem ScB.alloc {w : World} {S B : Nat} {s : Cfg} {v : Value} (h : ScB w S B s v) (o : Obj) : ScB (w.alloc o) S B s v := by
  have hg := World.grownBy_alloc w o none
  have hS : S < w.heap.size := Nat.lt_of_lt_of_le h.sc.lt h.sc.le
  refine ⟨h.sc.alloc o, fun g e => ⟨Nat.lt_of_lt_of_le (h.ap g e).1 hg.size, (h.ap g e).2.1, fun u hu => (h.ap g e).2.2 u ?_⟩⟩
  rw [← hu]
  exact (World.cell?_of_block (a := ⟨S, 2, none⟩) (hg.block S hS (by simp))).symm
theorem ScB.drewN {w : World} {S B : Nat} {s : Cfg} {v : Value} (h : ScB w S B s v) (n : Nat) : ScB (w.drewN n) S B s v := ⟨⟨h.sc.c0, h.sc.c1, h.sc.c2, h.sc.c3, h.sc.c4, h.sc.fz, h.sc.lt, h.sc.le⟩, h.ap⟩
theorem ScB.drew {w : World} {S B : Nat} {s : Cfg} {v : Value} (h : ScB w S B s v) : ScB w.drew S B s v := ⟨⟨h.sc.c0, h.sc.c1, h.sc.c2, h.sc.c3, h.sc.c4, h.sc.fz, h.sc.lt, h.sc.le⟩, h.ap⟩
/-- A slice of bytes that can be read. -/
def BytV (w : World) (v : Value) (l : List UInt8) : Prop := (v = .slice none 0 0 ∧ l = []) ∨ ∃ g o cap, v = .slice (some ⟨g, o, none⟩) l.length cap ∧ l.length ≤ cap ∧ BytesAt w g o l ∧ g < w.heap.size
theorem Buf.bytv {w : World} {base : Nat} {G : Option (Nat × Nat)} {v : Value} {l : List UInt8} (h : Buf w base G v l) : BytV w v l := by
  rcases h with ⟨rfl, rfl⟩ | ⟨g, o, cap, cur, fz, rfl, _, hh, hc, _, _, _, hb⟩
  · exact .inl ⟨rfl, rfl⟩
  · refine .inr ⟨g, o, cap, rfl, hc, fun j hj => ?_, (Array.getElem?_eq_some_iff.1 hh).1⟩
    rw [cell_of_row w g (o + j) cur _ fz hh]
    exact hb j hj
theorem BytV.kept {w w' : World} {v : Value} {l : List UInt8} (h : BytV w v l) (hk : ∀ g, v.ownBlock = some g → w'.heap[g]? = w.heap[g]?) (hs : w.heap.size ≤ w'.heap.size) : BytV w' v l := by
  rcases h with h | ⟨g, o, cap, rfl, hc, hb, hg⟩
  · exact .inl h
  · exact .inr ⟨g, o, cap, rfl, hc, fun j hj => (World.cell?_of_block (a := ⟨g, o + j, none⟩) (hk g rfl)).trans (hb j hj), Nat.lt_of_lt_of_le hg hs⟩
theorem ScB.moreN {w w' : World} {S B base N : Nat} {G : Option (Nat × Nat)} {s : Cfg} {v v' : Value} {l l' : List UInt8} (h : ScB w S B s v) (hB : Buf w base G v l) (hbase : base ≤ w.heap.size) (hG : ∀ g o, G = some (g, o) → g < base) (hN : N = w.heap.size)
    (hb : Buf w' N (place v) v' l') (hg : w.grownBy w' v.ownBlock) (hf : Fr N (place v) w w') : ScB w' S B s v' ∧ Buf w' base G v' l' ∧ Fr base G w w' := by
  subst hN
  exact h.more hB hbase hG hb hg hf
theorem scDrew {w : World} {S B : Nat} {s : Cfg} (h : ScAt w S B s) (n : Nat) : ScAt (w.drewN n) S B s := ⟨h.c0, h.c1, h.c2, h.c3, h.c4, h.fz, h.lt, h.le⟩
theorem synDrew {w : World} {p : Nat} (h : SynAt w p) (n : Nat) : SynAt (w.drewN n) p := h
theorem bvDrew {w : World} {v : Value} {l : List UInt8} (h : BytV w v l) (n : Nat) : BytV (w.drewN n) v l := h
theorem frDrew {base : Nat} {G : Option (Nat × Nat)} {w w' : World} (h : Fr base G w w') (n : Nat) : Fr base G w (w'.drewN n) := ⟨h.os, h.tape, h.output, h.size, h.block, h.head, h.row⟩
/-- What Compact and Indent answer. -/
def CmpPost (b : Bool) (base : Nat) (G : Option (Nat × Nat)) (l0 L : List UInt8) (w : World) (e : Ending) (w' : World) : Prop :=
  ∃ v' x, e = .returned (.tuple #[v', x]) ∧ (b = true → x = .nilIface ∧ Buf w' base G v' L) ∧ (b = false → ∃ p, x = .iface 94 (.pointer (some ⟨p, 0, none⟩)) ∧ SynAt w' p ∧ BytV w' v' l0) ∧ Fr base G w w'
theorem cSt_succ (esc : Bool) (l : List UInt8) (k : Nat) : cSt esc l (k + 1) = ((stepM (cSt esc l k).1.q (cSt esc l k).1 (atL l k)).1, ph3 (stepM (cSt esc l k).1.q (cSt esc l k).1 (atL l k)).2 l k (ph2 esc l k (ph1 esc l k (cSt esc l k).2))) := rfl
theorem cutL_pos {l : List UInt8} {st k : Nat} (h : st < k) : cutL l st k = (l.drop st).take (k - st) := by unfold cutL; rw [if_pos h]
theorem cutL_neg {l : List UInt8} {st k : Nat} (h : ¬ st < k) : cutL l st k = [] := by unfold cutL; rw [if_neg h]
/-- The scanner is given back: its own block alone may change. -/
theorem freeX (S B : Nat) (s : Cfg) (u : FrameMode) (w : World) (h : ScAt w S B s) :
    CallsD Tryd.prog 73 #[.pointer (some ⟨S, 0, none⟩)] u w fun e u' w' => u' = u ∧ (e = .returned (.tuple #[]) ∧ Gr2 B w w' S S ∧ ∀ k, k ≠ S → w'.heap[k]? = w.heap[k]?) := by
  obtain ⟨v, c2, o2⟩ := h.c2
  obtain ⟨p, c, rfl⟩ := ownsRow_form o2
  have f2 := h.fz 2
  clear h o2
  generalize s.st.length = n at c2
  go_enter_d Tryd.func73, Tryd.ntmps73
  go_wp2
  all_goals go_end0
  · exact ⟨rfl, (Gr2.refl B _ S S).set _ (q := ⟨S, 2, none⟩) (.inl rfl), fun k hk => Below.heap_setCell _ _ _ _ hk⟩
  · exact ⟨rfl, Gr2.refl B _ S S, fun _ _ => rfl⟩
set_option maxRecDepth 100000 in
set_option maxHeartbeats 16000000 in
theorem appendCompactS (base : Nat) (G : Option (Nat × Nat)) (v : Value) (l0 : List UInt8) (g cap : Nat) (l : List UInt8) (esc : Bool) (w : World) (hB : Buf w base G v l0) (hm : BytesAt w g 0 l) (hcap : l.length ≤ cap) (hl : l.length < 10000) (hsz : l0.length ≤ 1000000)
    (hbase : base ≤ w.heap.size) (hG : ∀ g o, G = some (g, o) → g < base) (hg : g < base) (hgG : ∀ o, G ≠ some (g, o)) :
    Calls Tryd.prog 56 #[v, .slice (some ⟨g, 0, none⟩) l.length cap, .bool esc] w (CmpPost (takenB l) base G l0 (l0 ++ compL esc l) w) := by
  have HNS := Lib.hid (newScannerS w)
  have HV : Hid (goM l c0C 0 = takenB l) := Lib.hid (scan_taken l)
  have HBW := Lib.hid hB
  obtain ⟨va, vc, hv, _⟩ := hB.shape
  obtain ⟨n0, hn0⟩ : ∃ n0, n0 = l0.length := ⟨_, rfl⟩
  rw [← hn0] at hv
  subst hv
  obtain ⟨Q, hQ⟩ : ∃ Q, Q = compL esc l := ⟨_, rfl⟩
  have HQ := Lib.hid hQ
  have HGH := Lib.hid hG
  have HBM := Lib.hid hbase
  have HM : Hid (∀ w', Fr base G w w' → BytesAt w' g 0 l) := Lib.hid fun w' f => hm.fr f hg hgG
  have HBND : Hid (∀ k, k ≤ l.length → bndX l k (13 * k) (cSt esc l k).2) := Lib.hid fun k hk => cSt_bnd esc l k hk
  rw [← hQ]
  generalize takenB l = b at HV ⊢
  obtain ⟨n, hn⟩ : ∃ n, n = l.length := ⟨_, rfl⟩
  obtain ⟨S, hS⟩ : ∃ S, S = w.heap.size := ⟨_, rfl⟩
  rw [← hn] at hcap hl ⊢
  have HN := Lib.hid hn
  have HN0 := Lib.hid hn0
  have HS := Lib.hid hS
  have hbS : base ≤ S := by rw [hS]; exact hbase
  have HSZ := Lib.hid hsz
  clear hB hm hQ hG hbase hn hn0 hS hsz
  have hmf : ∀ (fn : Fn) (first cap : Array Value) (w : World), (Instr.makeFunc fn first cap).run Tryd.prog w = .ok (.func fn first cap) w := fun _ _ _ _ => rfl
  go_enter_defers Tryd.func56, Tryd.ntmps56
  go_wp2_with fail
  refine HNS.out.mono ?_
  rintro e w1 ⟨rfl, h1, b1⟩
  rw [← HS.out] at h1 b1 ⊢
  have H1 : Hid (ScB w1 S (S + 1) c0C (.slice va n0 vc)) := Lib.hid (by rw [HS.out] at h1 b1 ⊢; exact ScB.new HBW.out h1 b1.size)
  have B1 : Hid (Buf w1 base G (.slice va n0 vc) (l0 ++ [])) := Lib.hid (by rw [List.append_nil]; exact HBW.out.below b1 (by rw [HS.out]; exact HBW.out.block))
  have F1 : Hid (Fr base G w w1) := Lib.hid (Fr.of_below (b1.mono hbS) HGH.out)
  clear h1 b1 HNS
  go_wp2
  go_loopg [0, 10, 20] n (fun q d st i wx => ∃ (k sv : Nat) (s : Cfg) (out : List UInt8), k ≤ n ∧ q = n - k ∧ i = .int .i64 k ∧ st = .int .i64 sv ∧ sv ≤ n ∧ out.length + (k - sv) ≤ 13 * n ∧ Hid (cSt esc l k = (s, sv, out)) ∧ Hid (Buf wx base G d (l0 ++ out)) ∧ Hid (ScB wx S (S + 1) s d) ∧ Hid (Fr base G w wx) ∧ Hid (InvC s k) ∧ Hid (goM l s k = b))
  case atStart => exact ⟨0, 0, c0C, [], Nat.zero_le _, rfl, rfl, rfl, Nat.zero_le _, by simp, Lib.hid rfl, B1, H1, F1, Lib.hid ⟨fun x hx => (by simp [c0C] at hx), Nat.zero_le _, (fun z => by cases z), (fun z => by cases z)⟩, HV⟩
  case round =>
    clear H1 B1 F1 HV
    obtain ⟨k, sv, s, out, hk, rfl, rfl, rfl, hsv, hob, hC, hB, hS, hF, hI, hM⟩ := hrel
    by_cases hkn : k < n
    · have hkl : k < l.length := by rw [← HN.out]; exact hkn
      have ck := HM.out wr hF.out k hkl
      rw [Nat.zero_add] at ck
      have hbx := HBND.out k (Nat.le_of_lt hkl)
      rw [hC.out] at hbx
      have HB1x := Lib.hid (ph1_bnd (esc := esc) hkl hbx)
      have HB2x := Lib.hid (ph2_bnd (esc := esc) HB1x.out)
      obtain ⟨c, hc⟩ : ∃ c, c = atL l k := ⟨_, rfl⟩
      have hcr := atL_range l k
      rw [← hc] at ck hcr
      have HC := Lib.hid hc
      clear hc hbx
      obtain ⟨b1, hb1⟩ : ∃ b1, b1 = decide (esc = true ∧ (c = 60 ∨ c = 62 ∨ c = 38)) := ⟨_, rfl⟩
      have HB1 := Lib.hid hb1
      clear hb1
      go_upto_region 8 with fail
      go_cut [37] from 25 to 36 (fun t wx => t = .bool b1 ∧ wr = wx)
      case first =>
        cases esc
        · have e : b1 = false := by rw [HB1.out]; exact decide_eq_false (fun q => by cases q.1)
          subst e
          go_wp2
          go_meet
          exact ⟨rfl, rfl⟩
        · by_cases h60 : c = 60
          · have e : b1 = true := by rw [HB1.out]; exact decide_eq_true ⟨rfl, .inl h60⟩
            subst e h60
            go_wp2
            go_meet
            exact ⟨rfl, rfl⟩
          · have e1 : (c == 60) = false := by simpa using h60
            by_cases h62 : c = 62
            · have e : b1 = true := by rw [HB1.out]; exact decide_eq_true ⟨rfl, .inr (.inl h62)⟩
              subst e h62
              go_wp2
              go_meet
              exact ⟨rfl, rfl⟩
            · have e2 : (c == 62) = false := by simpa using h62
              by_cases h38 : c = 38
              · have e : b1 = true := by rw [HB1.out]; exact decide_eq_true ⟨rfl, .inr (.inr h38)⟩
                subst e h38
                go_wp2
                go_meet
                exact ⟨rfl, rfl⟩
              · have e3 : (c == 38) = false := by simpa using h38
                have e : b1 = false := by rw [HB1.out]; exact decide_eq_false (fun q => by have := q.2; omega)
                subst e
                clear h60 h62 h38
                go_wp2
                go_meet
                exact ⟨rfl, rfl⟩
      case rest =>
        obtain ⟨rfl, rfl⟩ := hcut
        go_upto_if 37 with fail
        go_cut [0, 10] from 38 to 57 (fun d st wx => ∃ (sv1 : Nat) (out1 : List UInt8), st = .int .i64 sv1 ∧ Hid (ph1 esc l k (sv, out) = (sv1, out1)) ∧ Hid (Buf wx base G d (l0 ++ out1)) ∧ Hid (ScB wx S (S + 1) s d) ∧ Hid (Fr base G w wx))
        case first =>
          clear hI hM ck
          cases b1
          · have HP : Hid (ph1 esc l k (sv, out) = (sv, out)) := Lib.hid (by unfold ph1; rw [if_neg (fun q => by have h1 := HB1.out; rw [HC.out, decide_eq_true q] at h1; cases h1)])
            go_wp2
            go_meet
            exact ⟨sv, out, rfl, HP, hB, hS, hF⟩
          · have hq : esc = true ∧ (c = 60 ∨ c = 62 ∨ c = 38) := of_decide_eq_true HB1.out.symm
            obtain ⟨rfl, hq⟩ := hq
            rcases hq with rfl | rfl | rfl
            · have hPE : Hid (ph1 true l k (sv, out) = (k + 1, out ++ cutL l sv k ++ [92, 117, 48, 48, 51, 99])) := Lib.hid (by unfold ph1; rw [if_pos ⟨rfl, by rw [← HC.out]; omega⟩, ← HC.out]; rfl)
              have e15 : bits BinOp.and IntKind.u8 60 15 = 12 := by decide
              have hiA : ∀ h, ((((⟨#[48, 49, 50, 51, 52, 53, 54, 55, 56, 57, 97, 98, 99, 100, 101, 102]⟩ : ByteArray)[3]'h).toNat : Nat) : Int) = 51 := fun _ => rfl
              have hiB : ∀ h, ((((⟨#[48, 49, 50, 51, 52, 53, 54, 55, 56, 57, 97, 98, 99, 100, 101, 102]⟩ : ByteArray)[12]'h).toNat : Nat) : Int) = 99 := fun _ => rfl
              by_cases hlt : sv < k
              · have hcs : ¬ cap = sv := by omega
                have hlk : decide ((sv : Int) < (k : Int)) = true := by simp; omega
                go_wp2_with (at_builtin; refine wpList_append_buf rfl (.tmp 41) (.tmp 45) 56 rfl wr.heap.size (place u0) u0 (l0 ++ out) rfl hB.out.rebase _ _ rfl (src_part (HM.out wr hF.out) sv k (cap - sv) (Nat.le_of_lt hlt) (Nat.le_of_lt hkl)) ?c1 (Nat.le_refl _) hB.out.place_lt ?_)
                case c1 => have := HSZ.out; simp; omega
                intro v1 w1 hb1 hg1 hf1 _
                obtain ⟨hS1, hB1, hF1⟩ := hS.out.more hB.out (Nat.le_trans HBM.out hF.out.size) HGH.out hb1 hg1 hf1
                have HS1 := Lib.hid hS1
                have HB1 := Lib.hid hB1
                have HF1 := Lib.hid (hF.out.trans hF1)
                clear hb1 hg1 hf1 hS1 hB1 hF1
                clear hB hS hF
                go_wp2
                refine wp_region_noPanic ?_
                go_region_law (refine step_append_buf rfl (.tmp 47) (.tmp 54) 56 rfl _ _ v1 _ rfl ((show Buf w1.drew base G v1 _ from HB1.out).alloc _).rebase _ [92, 117, 48, 48, 51, 99] rfl (Src.slice _ 0 6 [92, 117, 48, 48, 51, 99] (bytes_new w1.drew _ _)) (by have := HSZ.out; simp; omega) (Nat.le_refl _) ((show Buf w1.drew base G v1 _ from HB1.out).alloc _).place_lt ?_; intro v2 w2 hb2 hg2 hf2 _)
                all_goals
                  refine NoPanic.normal ?_
                  obtain ⟨hS2, hB2, hF2⟩ := ScB.more (HS1.out.drew.alloc _) ((show Buf w1.drew base G v1 _ from HB1.out).alloc _) (by have := HBM.out; have := HF1.out.size; simp; omega) HGH.out hb2 hg2 hf2
                  have hF3 := Fr.trans (HF1.out.allocd _ HBM.out HGH.out) hF2
                  have HS2 := Lib.hid hS2
                  have HB2 := Lib.hid hB2
                  have HF2 := Lib.hid hF3
                  clear hb2 hg2 hf2 hF2 hS2 hB2 hF3
                  go_wp2
                  go_meet
                  exact ⟨k + 1, _, by go_num, Lib.hid (by rw [hPE.out, cutL_pos hlt]), Lib.hid (by simpa only [List.append_assoc, List.append_nil, List.nil_append] using HB2.out), HS2, HF2⟩
              · have hlk : decide ((sv : Int) < (k : Int)) = false := by simp; omega
                go_wp2
                refine wp_region_noPanic ?_
                go_region_law (refine step_append_buf rfl (.tmp 47) (.tmp 54) 56 rfl _ _ u0 _ rfl ((show Buf wr.drew base G u0 _ from hB.out).alloc _).rebase _ [92, 117, 48, 48, 51, 99] rfl (Src.slice _ 0 6 [92, 117, 48, 48, 51, 99] (bytes_new wr.drew _ _)) (by have := HSZ.out; simp; omega) (Nat.le_refl _) ((show Buf wr.drew base G u0 _ from hB.out).alloc _).place_lt ?_; intro v2 w2 hb2 hg2 hf2 _)
                all_goals
                  refine NoPanic.normal ?_
                  obtain ⟨hS2, hB2, hF2⟩ := ScB.more (hS.out.drew.alloc _) ((show Buf wr.drew base G u0 _ from hB.out).alloc _) (by have := HBM.out; have := hF.out.size; simp; omega) HGH.out hb2 hg2 hf2
                  have hF3 := Fr.trans (hF.out.allocd _ HBM.out HGH.out) hF2
                  have HS2 := Lib.hid hS2
                  have HB2 := Lib.hid hB2
                  have HF2 := Lib.hid hF3
                  clear hb2 hg2 hf2 hF2 hS2 hB2 hF3
                  go_wp2
                  go_meet
                  exact ⟨k + 1, _, by go_num, Lib.hid (by rw [hPE.out, cutL_neg hlt]), Lib.hid (by simpa only [List.append_assoc, List.append_nil, List.nil_append] using HB2.out), HS2, HF2⟩
            · have hPE : Hid (ph1 true l k (sv, out) = (k + 1, out ++ cutL l sv k ++ [92, 117, 48, 48, 51, 101])) := Lib.hid (by unfold ph1; rw [if_pos ⟨rfl, by rw [← HC.out]; omega⟩, ← HC.out]; rfl)
              have e15 : bits BinOp.and IntKind.u8 62 15 = 14 := by decide
              have hiA : ∀ h, ((((⟨#[48, 49, 50, 51, 52, 53, 54, 55, 56, 57, 97, 98, 99, 100, 101, 102]⟩ : ByteArray)[3]'h).toNat : Nat) : Int) = 51 := fun _ => rfl
              have hiB : ∀ h, ((((⟨#[48, 49, 50, 51, 52, 53, 54, 55, 56, 57, 97, 98, 99, 100, 101, 102]⟩ : ByteArray)[14]'h).toNat : Nat) : Int) = 101 := fun _ => rfl
              by_cases hlt : sv < k
              · have hcs : ¬ cap = sv := by omega
                have hlk : decide ((sv : Int) < (k : Int)) = true := by simp; omega
                go_wp2_with (at_builtin; refine wpList_append_buf rfl (.tmp 41) (.tmp 45) 56 rfl wr.heap.size (place u0) u0 (l0 ++ out) rfl hB.out.rebase _ _ rfl (src_part (HM.out wr hF.out) sv k (cap - sv) (Nat.le_of_lt hlt) (Nat.le_of_lt hkl)) ?c1 (Nat.le_refl _) hB.out.place_lt ?_)
                case c1 => have := HSZ.out; simp; omega
                intro v1 w1 hb1 hg1 hf1 _
                obtain ⟨hS1, hB1, hF1⟩ := hS.out.more hB.out (Nat.le_trans HBM.out hF.out.size) HGH.out hb1 hg1 hf1
                have HS1 := Lib.hid hS1
                have HB1 := Lib.hid hB1
                have HF1 := Lib.hid (hF.out.trans hF1)
                clear hb1 hg1 hf1 hS1 hB1 hF1
                clear hB hS hF
                go_wp2
                refine wp_region_noPanic ?_
                go_region_law (refine step_append_buf rfl (.tmp 47) (.tmp 54) 56 rfl _ _ v1 _ rfl ((show Buf w1.drew base G v1 _ from HB1.out).alloc _).rebase _ [92, 117, 48, 48, 51, 101] rfl (Src.slice _ 0 6 [92, 117, 48, 48, 51, 101] (bytes_new w1.drew _ _)) (by have := HSZ.out; simp; omega) (Nat.le_refl _) ((show Buf w1.drew base G v1 _ from HB1.out).alloc _).place_lt ?_; intro v2 w2 hb2 hg2 hf2 _)
                all_goals
                  refine NoPanic.normal ?_
                  obtain ⟨hS2, hB2, hF2⟩ := ScB.more (HS1.out.drew.alloc _) ((show Buf w1.drew base G v1 _ from HB1.out).alloc _) (by have := HBM.out; have := HF1.out.size; simp; omega) HGH.out hb2 hg2 hf2
                  have hF3 := Fr.trans (HF1.out.allocd _ HBM.out HGH.out) hF2
                  have HS2 := Lib.hid hS2
                  have HB2 := Lib.hid hB2
                  have HF2 := Lib.hid hF3
                  clear hb2 hg2 hf2 hF2 hS2 hB2 hF3
                  go_wp2
                  go_meet
                  exact ⟨k + 1, _, by go_num, Lib.hid (by rw [hPE.out, cutL_pos hlt]), Lib.hid (by simpa only [List.append_assoc, List.append_nil, List.nil_append] using HB2.out), HS2, HF2⟩
              · have hlk : decide ((sv : Int) < (k : Int)) = false := by simp; omega
                go_wp2
                refine wp_region_noPanic ?_
                go_region_law (refine step_append_buf rfl (.tmp 47) (.tmp 54) 56 rfl _ _ u0 _ rfl ((show Buf wr.drew base G u0 _ from hB.out).alloc _).rebase _ [92, 117, 48, 48, 51, 101] rfl (Src.slice _ 0 6 [92, 117, 48, 48, 51, 101] (bytes_new wr.drew _ _)) (by have := HSZ.out; simp; omega) (Nat.le_refl _) ((show Buf wr.drew base G u0 _ from hB.out).alloc _).place_lt ?_; intro v2 w2 hb2 hg2 hf2 _)
                all_goals
                  refine NoPanic.normal ?_
                  obtain ⟨hS2, hB2, hF2⟩ := ScB.more (hS.out.drew.alloc _) ((show Buf wr.drew base G u0 _ from hB.out).alloc _) (by have := HBM.out; have := hF.out.size; simp; omega) HGH.out hb2 hg2 hf2
                  have hF3 := Fr.trans (hF.out.allocd _ HBM.out HGH.out) hF2
                  have HS2 := Lib.hid hS2
                  have HB2 := Lib.hid hB2
                  have HF2 := Lib.hid hF3
                  clear hb2 hg2 hf2 hF2 hS2 hB2 hF3
                  go_wp2
                  go_meet
                  exact ⟨k + 1, _, by go_num, Lib.hid (by rw [hPE.out, cutL_neg hlt]), Lib.hid (by simpa only [List.append_assoc, List.append_nil, List.nil_append] using HB2.out), HS2, HF2⟩
            · have hPE : Hid (ph1 true l k (sv, out) = (k + 1, out ++ cutL l sv k ++ [92, 117, 48, 48, 50, 54])) := Lib.hid (by unfold ph1; rw [if_pos ⟨rfl, by rw [← HC.out]; omega⟩, ← HC.out]; rfl)
              have e15 : bits BinOp.and IntKind.u8 38 15 = 6 := by decide
              have hiA : ∀ h, ((((⟨#[48, 49, 50, 51, 52, 53, 54, 55, 56, 57, 97, 98, 99, 100, 101, 102]⟩ : ByteArray)[2]'h).toNat : Nat) : Int) = 50 := fun _ => rfl
              have hiB : ∀ h, ((((⟨#[48, 49, 50, 51, 52, 53, 54, 55, 56, 57, 97, 98, 99, 100, 101, 102]⟩ : ByteArray)[6]'h).toNat : Nat) : Int) = 54 := fun _ => rfl
              by_cases hlt : sv < k
              · have hcs : ¬ cap = sv := by omega
                have hlk : decide ((sv : Int) < (k : Int)) = true := by simp; omega
                go_wp2_with (at_builtin; refine wpList_append_buf rfl (.tmp 41) (.tmp 45) 56 rfl wr.heap.size (place u0) u0 (l0 ++ out) rfl hB.out.rebase _ _ rfl (src_part (HM.out wr hF.out) sv k (cap - sv) (Nat.le_of_lt hlt) (Nat.le_of_lt hkl)) ?c1 (Nat.le_refl _) hB.out.place_lt ?_)
                case c1 => have := HSZ.out; simp; omega
                intro v1 w1 hb1 hg1 hf1 _
                obtain ⟨hS1, hB1, hF1⟩ := hS.out.more hB.out (Nat.le_trans HBM.out hF.out.size) HGH.out hb1 hg1 hf1
                have HS1 := Lib.hid hS1
                have HB1 := Lib.hid hB1
                have HF1 := Lib.hid (hF.out.trans hF1)
                clear hb1 hg1 hf1 hS1 hB1 hF1
                clear hB hS hF
                go_wp2
                refine wp_region_noPanic ?_
                go_region_law (refine step_append_buf rfl (.tmp 47) (.tmp 54) 56 rfl _ _ v1 _ rfl ((show Buf w1.drew base G v1 _ from HB1.out).alloc _).rebase _ [92, 117, 48, 48, 50, 54] rfl (Src.slice _ 0 6 [92, 117, 48, 48, 50, 54] (bytes_new w1.drew _ _)) (by have := HSZ.out; simp; omega) (Nat.le_refl _) ((show Buf w1.drew base G v1 _ from HB1.out).alloc _).place_lt ?_; intro v2 w2 hb2 hg2 hf2 _)
                all_goals
                  refine NoPanic.normal ?_
                  obtain ⟨hS2, hB2, hF2⟩ := ScB.more (HS1.out.drew.alloc _) ((show Buf w1.drew base G v1 _ from HB1.out).alloc _) (by have := HBM.out; have := HF1.out.size; simp; omega) HGH.out hb2 hg2 hf2
                  have hF3 := Fr.trans (HF1.out.allocd _ HBM.out HGH.out) hF2
                  have HS2 := Lib.hid hS2
                  have HB2 := Lib.hid hB2
                  have HF2 := Lib.hid hF3
                  clear hb2 hg2 hf2 hF2 hS2 hB2 hF3
                  go_wp2
                  go_meet
                  exact ⟨k + 1, _, by go_num, Lib.hid (by rw [hPE.out, cutL_pos hlt]), Lib.hid (by simpa only [List.append_assoc, List.append_nil, List.nil_append] using HB2.out), HS2, HF2⟩
              · have hlk : decide ((sv : Int) < (k : Int)) = false := by simp; omega
                go_wp2
                refine wp_region_noPanic ?_
                go_region_law (refine step_append_buf rfl (.tmp 47) (.tmp 54) 56 rfl _ _ u0 _ rfl ((show Buf wr.drew base G u0 _ from hB.out).alloc _).rebase _ [92, 117, 48, 48, 50, 54] rfl (Src.slice _ 0 6 [92, 117, 48, 48, 50, 54] (bytes_new wr.drew _ _)) (by have := HSZ.out; simp; omega) (Nat.le_refl _) ((show Buf wr.drew base G u0 _ from hB.out).alloc _).place_lt ?_; intro v2 w2 hb2 hg2 hf2 _)
                all_goals
                  refine NoPanic.normal ?_
                  obtain ⟨hS2, hB2, hF2⟩ := ScB.more (hS.out.drew.alloc _) ((show Buf wr.drew base G u0 _ from hB.out).alloc _) (by have := HBM.out; have := hF.out.size; simp; omega) HGH.out hb2 hg2 hf2
                  have hF3 := Fr.trans (hF.out.allocd _ HBM.out HGH.out) hF2
                  have HS2 := Lib.hid hS2
                  have HB2 := Lib.hid hB2
                  have HF2 := Lib.hid hF3
                  clear hb2 hg2 hf2 hF2 hS2 hB2 hF3
                  go_wp2
                  go_meet
                  exact ⟨k + 1, _, by go_num, Lib.hid (by rw [hPE.out, cutL_neg hlt]), Lib.hid (by simpa only [List.append_assoc, List.append_nil, List.nil_append] using HB2.out), HS2, HF2⟩
        case rest =>
          clear hB hS hF HB1
          obtain ⟨sv1, out1, rfl, hP1, hB, hS, hF⟩ := hcut
          rw [hP1.out] at HB1x HB2x
          have hob1 : out1.length + (k - sv1) ≤ 13 * k + 6 := HB1x.out.1
          have hsv1 : sv1 ≤ n := by rw [HN.out]; exact HB1x.out.2
          obtain ⟨b2, hb2⟩ : ∃ b2, b2 = decide (esc = true ∧ c = 226 ∧ k + 2 < n ∧ atL l (k + 1) = 128 ∧ (atL l (k + 2) = 168 ∨ atL l (k + 2) = 169)) := ⟨_, rfl⟩
          have HB2 := Lib.hid hb2
          clear hb2
          go_upto_region 13 with fail
          go_cut [86] from 58 to 85 (fun t wx => t = .bool b2 ∧ wc = wx)
          case first =>
            clear hI hM
            cases esc
            · have e : b2 = false := by rw [HB2.out]; exact decide_eq_false (fun q => by cases q.1)
              subst e
              go_wp2
              go_meet
              exact ⟨rfl, rfl⟩
            · by_cases h226 : c = 226
              · by_cases hk2 : k + 2 < n
                · have ck1 := HM.out wc hF.out (k + 1) (by rw [← HN.out]; omega)
                  have ck2 := HM.out wc hF.out (k + 2) (by rw [← HN.out]; omega)
                  rw [Nat.zero_add] at ck1 ck2
                  have hr2 := atL_range l (k + 2)
                  have hk3 : k + 1 < n := by omega
                  subst h226
                  by_cases h128 : atL l (k + 1) = 128
                  · by_cases h168 : atL l (k + 2) = 168
                    · have e : b2 = true := by rw [HB2.out]; exact decide_eq_true ⟨rfl, rfl, hk2, h128, .inl h168⟩
                      subst e
                      rw [h128] at ck1
                      rw [h168] at ck2
                      clear h128 h168 hr2
                      have e1 : bits BinOp.andNot IntKind.u8 168 1 = 168 := by decide
                      go_wp2
                      go_meet
                      exact ⟨rfl, rfl⟩
                    · by_cases h169 : atL l (k + 2) = 169
                      · have e : b2 = true := by rw [HB2.out]; exact decide_eq_true ⟨rfl, rfl, hk2, h128, .inr h169⟩
                        subst e
                        rw [h128] at ck1
                        rw [h169] at ck2
                        clear h128 h168 h169 hr2
                        have e1 : bits BinOp.andNot IntKind.u8 169 1 = 168 := by decide
                        go_wp2
                        go_meet
                        exact ⟨rfl, rfl⟩
                      · have e : b2 = false := by rw [HB2.out]; exact decide_eq_false (fun q => q.2.2.2.2.elim h168 h169)
                        subst e
                        have e1 : (bits BinOp.andNot IntKind.u8 (atL l (k + 2)) 1 == 168) = false := andNot_no _ hr2 h168 h169
                        rw [h128] at ck1
                        clear h128
                        generalize atL l (k + 2) = d at ck2 e1
                        clear h168 h169 hr2
                        go_wp2
                        go_meet
                        exact ⟨rfl, rfl⟩
                  · have e : b2 = false := by rw [HB2.out]; exact decide_eq_false (fun q => h128 q.2.2.2.1)
                    subst e
                    have e1 : (atL l (k + 1) == 128) = false := by simpa using h128
                    generalize atL l (k + 1) = d at ck1 e1
                    clear h128 hr2
                    go_wp2
                    go_meet
                    exact ⟨rfl, rfl⟩
                · have e : b2 = false := by rw [HB2.out]; exact decide_eq_false (fun q => hk2 q.2.2.1)
                  subst e h226
                  have e1 : decide ((k : Int) + 2 < (n : Int)) = false := by simp; omega
                  go_wp2
                  go_meet
                  exact ⟨rfl, rfl⟩
              · have e : b2 = false := by rw [HB2.out]; exact decide_eq_false (fun q => h226 q.2.1)
                subst e
                have e1 : (c == 226) = false := by simpa using h226
                clear h226
                go_wp2
                go_meet
                exact ⟨rfl, rfl⟩
          case rest =>
            obtain ⟨rfl, rfl⟩ := hcut
            go_upto_if 86 with fail
            go_cut [0, 10] from 87 to 107 (fun d st wx => ∃ (sv2 : Nat) (out2 : List UInt8), st = .int .i64 sv2 ∧ Hid (ph2 esc l k (sv1, out1) = (sv2, out2)) ∧ Hid (Buf wx base G d (l0 ++ out2)) ∧ Hid (ScB wx S (S + 1) s d) ∧ Hid (Fr base G w wx))
            case first =>
              clear hI hM
              cases b2
              · have HP : Hid (ph2 esc l k (sv1, out1) = (sv1, out1)) := Lib.hid (by unfold ph2; rw [if_neg (fun q => by have h1 := HB2.out; rw [HC.out, HN.out, decide_eq_true q] at h1; cases h1)])
                go_wp2
                go_meet
                exact ⟨sv1, out1, rfl, HP, hB, hS, hF⟩
              · have hq : esc = true ∧ c = 226 ∧ k + 2 < n ∧ atL l (k + 1) = 128 ∧ (atL l (k + 2) = 168 ∨ atL l (k + 2) = 169) := of_decide_eq_true HB2.out.symm
                obtain ⟨rfl, rfl, hk2, h128, h1x | h1x⟩ := hq
                · have hPE : Hid (ph2 true l k (sv1, out1) = (k + 3, out1 ++ cutL l sv1 k ++ [92, 117, 50, 48, 50, 56])) := Lib.hid (by unfold ph2; rw [if_pos ⟨rfl, HC.out.symm, by rw [← HN.out]; exact hk2, h128, .inl h1x⟩, h1x]; rfl)
                  have e15 : bits BinOp.and IntKind.u8 168 15 = 8 := by decide
                  have hiB : ∀ h, ((((⟨#[48, 49, 50, 51, 52, 53, 54, 55, 56, 57, 97, 98, 99, 100, 101, 102]⟩ : ByteArray)[8]'h).toNat : Nat) : Int) = 56 := fun _ => rfl
                  have hkm2 : k + 2 < l.length := by rw [← HN.out]; exact hk2
                  have HX := Lib.hid h1x
                  clear h128 h1x
                  by_cases hlt : sv1 < k
                  · have hcs : ¬ cap = sv1 := by omega
                    have hlk : decide ((sv1 : Int) < (k : Int)) = true := by simp; omega
                    go_wp2_with (at_builtin; refine wpList_append_buf rfl (.tmp 90) (.tmp 94) 56 rfl wc.heap.size (place u0) u0 (l0 ++ out1) rfl hB.out.rebase _ _ rfl (src_part (HM.out wc hF.out) sv1 k (cap - sv1) (Nat.le_of_lt hlt) (Nat.le_of_lt hkl)) ?c1 (Nat.le_refl _) hB.out.place_lt ?_)
                    case c1 => have := HSZ.out; simp; omega
                    intro v1 w1 hb1 hg1 hf1 _
                    obtain ⟨hS1, hB1, hF1⟩ := hS.out.more hB.out (Nat.le_trans HBM.out hF.out.size) HGH.out hb1 hg1 hf1
                    have HS1 := Lib.hid hS1
                    have HB1 := Lib.hid hB1
                    have HF1 := Lib.hid (hF.out.trans hF1)
                    clear hb1 hg1 hf1 hS1 hB1 hF1
                    clear hB hS hF
                    have ck2 := HM.out w1 HF1.out (k + 2) hkm2
                    rw [Nat.zero_add, HX.out] at ck2
                    go_wp2_with (at_builtin; refine wpList_append_buf rfl (.tmp 96) (.tmp 104) 56 rfl _ _ v1 _ rfl (HB1.out.alloc _).rebase _ [92, 117, 50, 48, 50, 56] rfl (Src.slice _ 0 6 [92, 117, 50, 48, 50, 56] (bytes_new w1 _ _)) ?c1 (Nat.le_refl _) (HB1.out.alloc _).place_lt ?_)
                    case c1 => have := HSZ.out; simp; omega
                    intro v2 w2 hb2 hg2 hf2 _
                    obtain ⟨hS2, hB2, hF2⟩ := ScB.moreN (HS1.out.alloc _) (HB1.out.alloc _) (by have := HBM.out; have := HF1.out.size; simp; omega) HGH.out (by simp) hb2 hg2 hf2
                    have hF3 := Fr.trans (HF1.out.alloc _ HBM.out HGH.out) hF2
                    have HS2 := Lib.hid hS2
                    have HB2 := Lib.hid hB2
                    have HF2 := Lib.hid hF3
                    clear hb2 hg2 hf2 hF2 hS2 hB2 hF3
                    go_wp2
                    go_meet
                    exact ⟨k + 3, _, by go_num, Lib.hid (by rw [hPE.out, cutL_pos hlt]), Lib.hid (by simpa only [List.append_assoc, List.append_nil, List.nil_append] using HB2.out), HS2, HF2⟩
                  · have hlk : decide ((sv1 : Int) < (k : Int)) = false := by simp; omega
                    have ck2 := HM.out wc hF.out (k + 2) hkm2
                    rw [Nat.zero_add, HX.out] at ck2
                    go_wp2_with (at_builtin; refine wpList_append_buf rfl (.tmp 96) (.tmp 104) 56 rfl _ _ u0 _ rfl (hB.out.alloc _).rebase _ [92, 117, 50, 48, 50, 56] rfl (Src.slice _ 0 6 [92, 117, 50, 48, 50, 56] (bytes_new wc _ _)) ?c1 (Nat.le_refl _) (hB.out.alloc _).place_lt ?_)
                    case c1 => have := HSZ.out; simp; omega
                    intro v2 w2 hb2 hg2 hf2 _
                    obtain ⟨hS2, hB2, hF2⟩ := ScB.moreN (hS.out.alloc _) (hB.out.alloc _) (by have := HBM.out; have := hF.out.size; simp; omega) HGH.out (by simp) hb2 hg2 hf2
                    have hF3 := Fr.trans (hF.out.alloc _ HBM.out HGH.out) hF2
                    have HS2 := Lib.hid hS2
                    have HB2 := Lib.hid hB2
                    have HF2 := Lib.hid hF3
                    clear hb2 hg2 hf2 hF2 hS2 hB2 hF3
                    go_wp2
                    go_meet
                    exact ⟨k + 3, _, by go_num, Lib.hid (by rw [hPE.out, cutL_neg hlt]), Lib.hid (by simpa only [List.append_assoc, List.append_nil, List.nil_append] using HB2.out), HS2, HF2⟩
                · have hPE : Hid (ph2 true l k (sv1, out1) = (k + 3, out1 ++ cutL l sv1 k ++ [92, 117, 50, 48, 50, 57])) := Lib.hid (by unfold ph2; rw [if_pos ⟨rfl, HC.out.symm, by rw [← HN.out]; exact hk2, h128, .inr h1x⟩, h1x]; rfl)
                  have e15 : bits BinOp.and IntKind.u8 169 15 = 9 := by decide
                  have hiB : ∀ h, ((((⟨#[48, 49, 50, 51, 52, 53, 54, 55, 56, 57, 97, 98, 99, 100, 101, 102]⟩ : ByteArray)[9]'h).toNat : Nat) : Int) = 57 := fun _ => rfl
                  have hkm2 : k + 2 < l.length := by rw [← HN.out]; exact hk2
                  have HX := Lib.hid h1x
                  clear h128 h1x
                  by_cases hlt : sv1 < k
                  · have hcs : ¬ cap = sv1 := by omega
                    have hlk : decide ((sv1 : Int) < (k : Int)) = true := by simp; omega
                    go_wp2_with (at_builtin; refine wpList_append_buf rfl (.tmp 90) (.tmp 94) 56 rfl wc.heap.size (place u0) u0 (l0 ++ out1) rfl hB.out.rebase _ _ rfl (src_part (HM.out wc hF.out) sv1 k (cap - sv1) (Nat.le_of_lt hlt) (Nat.le_of_lt hkl)) ?c1 (Nat.le_refl _) hB.out.place_lt ?_)
                    case c1 => have := HSZ.out; simp; omega
                    intro v1 w1 hb1 hg1 hf1 _
                    obtain ⟨hS1, hB1, hF1⟩ := hS.out.more hB.out (Nat.le_trans HBM.out hF.out.size) HGH.out hb1 hg1 hf1
                    have HS1 := Lib.hid hS1
                    have HB1 := Lib.hid hB1
                    have HF1 := Lib.hid (hF.out.trans hF1)
                    clear hb1 hg1 hf1 hS1 hB1 hF1
                    clear hB hS hF
                    have ck2 := HM.out w1 HF1.out (k + 2) hkm2
                    rw [Nat.zero_add, HX.out] at ck2
                    go_wp2_with (at_builtin; refine wpList_append_buf rfl (.tmp 96) (.tmp 104) 56 rfl _ _ v1 _ rfl (HB1.out.alloc _).rebase _ [92, 117, 50, 48, 50, 57] rfl (Src.slice _ 0 6 [92, 117, 50, 48, 50, 57] (bytes_new w1 _ _)) ?c1 (Nat.le_refl _) (HB1.out.alloc _).place_lt ?_)
                    case c1 => have := HSZ.out; simp; omega
                    intro v2 w2 hb2 hg2 hf2 _
                    obtain ⟨hS2, hB2, hF2⟩ := ScB.moreN (HS1.out.alloc _) (HB1.out.alloc _) (by have := HBM.out; have := HF1.out.size; simp; omega) HGH.out (by simp) hb2 hg2 hf2
                    have hF3 := Fr.trans (HF1.out.alloc _ HBM.out HGH.out) hF2
                    have HS2 := Lib.hid hS2
                    have HB2 := Lib.hid hB2
                    have HF2 := Lib.hid hF3
                    clear hb2 hg2 hf2 hF2 hS2 hB2 hF3
                    go_wp2
                    go_meet
                    exact ⟨k + 3, _, by go_num, Lib.hid (by rw [hPE.out, cutL_pos hlt]), Lib.hid (by simpa only [List.append_assoc, List.append_nil, List.nil_append] using HB2.out), HS2, HF2⟩
                  · have hlk : decide ((sv1 : Int) < (k : Int)) = false := by simp; omega
                    have ck2 := HM.out wc hF.out (k + 2) hkm2
                    rw [Nat.zero_add, HX.out] at ck2
                    go_wp2_with (at_builtin; refine wpList_append_buf rfl (.tmp 96) (.tmp 104) 56 rfl _ _ u0 _ rfl (hB.out.alloc _).rebase _ [92, 117, 50, 48, 50, 57] rfl (Src.slice _ 0 6 [92, 117, 50, 48, 50, 57] (bytes_new wc _ _)) ?c1 (Nat.le_refl _) (hB.out.alloc _).place_lt ?_)
                    case c1 => have := HSZ.out; simp; omega
                    intro v2 w2 hb2 hg2 hf2 _
                    obtain ⟨hS2, hB2, hF2⟩ := ScB.moreN (hS.out.alloc _) (hB.out.alloc _) (by have := HBM.out; have := hF.out.size; simp; omega) HGH.out (by simp) hb2 hg2 hf2
                    have hF3 := Fr.trans (hF.out.alloc _ HBM.out HGH.out) hF2
                    have HS2 := Lib.hid hS2
                    have HB2 := Lib.hid hB2
                    have HF2 := Lib.hid hF3
                    clear hb2 hg2 hf2 hF2 hS2 hB2 hF3
                    go_wp2
                    go_meet
                    exact ⟨k + 3, _, by go_num, Lib.hid (by rw [hPE.out, cutL_neg hlt]), Lib.hid (by simpa only [List.append_assoc, List.append_nil, List.nil_append] using HB2.out), HS2, HF2⟩
            case rest =>
              clear hB hS hF HB2
              obtain ⟨sv2, out2, rfl, hP2, hB, hS, hF⟩ := hcut
              rw [hP2.out] at HB2x
              have hob2 : out2.length + (k - sv2) ≤ 13 * k + 6 + 6 := HB2x.out.1
              have hsv2 : sv2 ≤ n := by rw [HN.out]; exact HB2x.out.2
              have c0 := hS.out.sc.c0
              have hst : Hid (Calls Tryd.prog (fid s.q) #[.pointer (some ⟨S, 0, none⟩), .int .u8 c] wc (StepB S (S + 1) (stepM s.q s c) u0 wc)) := Lib.hid (stepB s.q S (S + 1) s c u0 wc hS.out ⟨hI.out.el, by have := hI.out.len; omega⟩ hcr.1 hI.out.bse)
              have hq := enterQ s.q
              have hinv := Lib.hid (inv_step hI.out c)
              have hbad := Lib.hid (bad_step hI.out c)
              have hgo := goM_at (l := l) (s := s) hkl
              rw [hM.out, ← HC.out] at hgo
              have HGO := Lib.hid hgo
              have HCS : Hid (cSt esc l (k + 1) = ((stepM s.q s c).1, ph3 (stepM s.q s c).2 l k (sv2, out2))) := Lib.hid (by rw [cSt_succ, hC.out]; simp only; rw [← HC.out, hP1.out, hP2.out])
              generalize stepM s.q s c = r at hst hinv hbad HGO HCS
              generalize fid s.q = fq at c0 hst hq
              clear hgo hI hM HB1x HB2x hP1 hP2 hob hob1 hsv1 hC
              go_wp2_with fail
              refine hst.out.mono ?_
              rintro e w2 ⟨rfl, h2, g2, k2⟩
              have H2 := Lib.hid h2
              have HBf : Hid (Buf w2 base G u0 (l0 ++ out2)) := Lib.hid (hB.out.kept k2)
              have HFf := Lib.hid (hF.out.trans (g2.fr hbS (Nat.lt_succ_self S) HGH.out))
              clear h2 g2 k2 hst hq c0 hB hS hF
              by_cases h11 : r.2 = 11
              · have hbf : b = false := by rw [HGO.out, if_pos h11]
                have her : r.1.er = true := hbad.out h11
                have hv : eofM r.1 = false := by unfold eofM; rw [if_pos her]
                have HE := Lib.hid (eofB S (S + 1) (k + 1) r.1 u0 w2 H2.out hinv.out (by omega))
                rw [hv] at HE
                rw [h11]
                have hB := HBf
                have hS := H2
                have hF := HFf
                clear HGO hbad hinv HCS her hv h11 H2 HBf HFf
                subst hbf
                have hsh : (u0 = .slice none 0 0 ∧ n0 = 0) ∨ ∃ g' o' m' c', u0 = .slice (some ⟨g', o', none⟩) m' c' ∧ n0 ≤ m' ∧ m' ≤ c' ∧ Hid (BytV w2 (.slice (some ⟨g', o', none⟩) n0 c') l0) := by
                  rcases hB.out with ⟨q1, q2⟩ | ⟨g', o', c', cur, fz, q1, _, hh, hc', _, _, _, hbb⟩
                  · exact .inl ⟨q1, by rw [HN0.out, (List.append_eq_nil_iff.1 q2).1]; rfl⟩
                  · refine .inr ⟨g', o', _, c', q1, by rw [HN0.out]; simp, hc', Lib.hid (.inr ⟨g', o', c', by rw [HN0.out], ?_, fun j hj => ?_, (Array.getElem?_eq_some_iff.1 hh).1⟩)⟩
                    · simp at hc'; omega
                    · rw [cell_of_row w2 g' (o' + j) cur _ fz hh, hbb j (by simp; omega), atL_app_left _ _ j hj]
                rcases hsh with ⟨rfl, hz⟩ | ⟨g', o', m', c', rfl, hm1, hm2, hby⟩
                · subst hz
                  have hl0 : l0 = [] := List.eq_nil_of_length_eq_zero HN0.out.symm
                  subst hl0
                  go_wp2_with fail
                  refine HE.out.mono ?_
                  rintro e w2 ⟨s', rfl, h2, g2, her, k2⟩
                  obtain ⟨x, c3, _, e2⟩ := h2.sc.c3
                  obtain ⟨p, rfl, hp, hs⟩ := e2 (her rfl)
                  have H2 := Lib.hid h2.sc
                  have G2 := Lib.hid (hF.out.trans (g2.fr hbS (Nat.lt_succ_self S) HGH.out))
                  have P2 := Lib.hid (And.intro hp hs)
                  clear h2 g2 her e2 k2 hF hB HE hp hs
                  go_wp2
                  refine wp_region_noPanic ?_
                  go_quiet (fail)
                  refine NoPanic.normal ?_
                  go_wp2
                  refine leaves_cons (f := 73) (args := #[.pointer (some ⟨S, 0, none⟩)]) (by simp) (by simp [go_sem]) ?_
                  refine (freeX S (S + 1) s' _ _ (scDrew H2.out _)).mono ?_
                  rintro e u' w3 ⟨rfl, rfl, g3, k3⟩
                  have hF3 := (frDrew G2.out _).trans (g3.fr hbS (Nat.lt_succ_self S) HGH.out)
                  have hp3 := (synDrew P2.out.2 _).same (k3 p (by have := P2.out.1; omega))
                  simp [Leaves, settle, results, Tryd.results56, go_sem]
                  exact ⟨_, _, rfl, (fun z => by cases z), fun _ => ⟨p, rfl, hp3, .inl ⟨rfl, rfl⟩⟩, hF3⟩
                · have hnS : ¬ g' = S := (hS.out.ap g' rfl).2.1
                  go_wp2_with fail
                  refine HE.out.mono ?_
                  rintro e w2 ⟨s', rfl, h2, g2, her, k2⟩
                  obtain ⟨x, c3, _, e2⟩ := h2.sc.c3
                  obtain ⟨p, rfl, hp, hs⟩ := e2 (her rfl)
                  have H2 := Lib.hid h2.sc
                  have G2 := Lib.hid (hF.out.trans (g2.fr hbS (Nat.lt_succ_self S) HGH.out))
                  have P2 := Lib.hid (And.intro hp hs)
                  have BV2 : Hid (BytV w2 (.slice (some ⟨g', o', none⟩) n0 c') l0) := Lib.hid (hby.out.kept k2 g2.size)
                  have hcc : n0 ≤ c' := by omega
                  clear h2 g2 her e2 k2 hF hB HE hp hs hby
                  go_wp2
                  refine wp_region_noPanic ?_
                  go_quiet (fail)
                  refine NoPanic.normal ?_
                  go_wp2
                  refine leaves_cons (f := 73) (args := #[.pointer (some ⟨S, 0, none⟩)]) (by simp) (by simp [go_sem]) ?_
                  refine (freeX S (S + 1) s' _ _ (scDrew H2.out _)).mono ?_
                  rintro e u' w3 ⟨rfl, rfl, g3, k3⟩
                  have hF3 := (frDrew G2.out _).trans (g3.fr hbS (Nat.lt_succ_self S) HGH.out)
                  have hp3 := (synDrew P2.out.2 _).same (k3 p (by have := P2.out.1; omega))
                  have hb3 := (bvDrew BV2.out _).kept (fun q hq => k3 q (by obtain rfl : g' = q := Option.some.inj hq; exact hnS)) g3.size
                  simp [Leaves, settle, results, Tryd.results56, go_sem]
                  exact ⟨_, _, rfl, (fun z => by cases z), fun _ => ⟨p, rfl, hp3, hb3⟩, hF3⟩
              · have hbt : goM l r.1 (k + 1) = b := by rw [HGO.out, if_neg h11]
                have HBT := Lib.hid hbt
                have h11' : (r.2 == 11) = false := by simpa using h11
                have HBN := Lib.hid (HBND.out (k + 1) hkl)
                by_cases h9 : 9 ≤ r.2
                · have h9' : decide (9 ≤ r.2) = true := decide_eq_true h9
                  by_cases hlt : sv2 < k
                  · have hcs : ¬ cap = sv2 := by omega
                    have hlk : decide ((sv2 : Int) < (k : Int)) = true := by simp; omega
                    have HC3 : Hid (cSt esc l (k + 1) = (r.1, k + 1, out2 ++ (l.drop sv2).take (k - sv2))) := Lib.hid (by rw [HCS.out]; unfold ph3; rw [if_pos h9, cutL_pos hlt])
                    rw [HC3.out] at HBN
                    have hob3 := HBN.out.1
                    clear HGO hbad HCS h11 hbt HBN h9
                    go_wp2_with (at_builtin; refine wpList_append_buf rfl (.tmp 122) (.tmp 126) 56 rfl w2.heap.size (place u0) u0 (l0 ++ out2) rfl HBf.out.rebase _ _ rfl (src_part (HM.out w2 HFf.out) sv2 k (cap - sv2) (Nat.le_of_lt hlt) (Nat.le_of_lt hkl)) ?c1 (Nat.le_refl _) HBf.out.place_lt ?_)
                    case c1 => have := HSZ.out; simp; omega
                    intro v1 w1 hb1 hg1 hf1 _
                    obtain ⟨hS1, hB1, hF1⟩ := H2.out.more HBf.out (Nat.le_trans HBM.out HFf.out.size) HGH.out hb1 hg1 hf1
                    have HS1 := Lib.hid hS1
                    have HB1 := Lib.hid hB1
                    have HF1 := Lib.hid (HFf.out.trans hF1)
                    clear hb1 hg1 hf1 hS1 hB1 hF1
                    clear H2 HBf HFf
                    go_wp2
                    go_roundg (n - (k + 1))
                    case measure => omega
                    case rel => exact ⟨k + 1, k + 1, r.1, _, hkn, rfl, by go_num, by go_num, by omega, by omega, HC3, Lib.hid (by simpa only [List.append_assoc] using HB1.out), HS1, HF1, hinv, HBT⟩
                  · have hlk : decide ((sv2 : Int) < (k : Int)) = false := by simp; omega
                    have HC3 : Hid (cSt esc l (k + 1) = (r.1, k + 1, out2)) := Lib.hid (by rw [HCS.out]; unfold ph3; rw [if_pos h9, cutL_neg hlt, List.append_nil])
                    rw [HC3.out] at HBN
                    have hob3 := HBN.out.1
                    clear HGO hbad HCS h11 hbt HBN h9
                    go_wp2
                    go_roundg (n - (k + 1))
                    case measure => omega
                    case rel => exact ⟨k + 1, k + 1, r.1, _, hkn, rfl, by go_num, by go_num, by omega, by omega, HC3, HBf, H2, HFf, hinv, HBT⟩
                · have h9' : decide (9 ≤ r.2) = false := decide_eq_false h9
                  have HC3 : Hid (cSt esc l (k + 1) = (r.1, sv2, out2)) := Lib.hid (by rw [HCS.out]; unfold ph3; rw [if_neg h9])
                  rw [HC3.out] at HBN
                  have hob3 := HBN.out.1
                  have hsv3 : sv2 ≤ n := hsv2
                  clear HGO hbad HCS h11 hbt HBN h9
                  go_wp2
                  go_roundg (n - (k + 1))
                  case measure => omega
                  case rel => exact ⟨k + 1, sv2, r.1, _, hkn, rfl, by go_num, rfl, by omega, by omega, HC3, HBf, H2, HFf, hinv, HBT⟩
    · obtain rfl : k = n := by omega
      have hv : eofM s = b := by rw [← hM.out, goM_end (by rw [← HN.out]; exact hkn)]
      have HE := Lib.hid (eofB S (S + 1) k s u0 wr hS.out hI.out (by omega))
      rw [hv] at HE
      clear hI hM hv hkn
      cases b
      · have hsh : (u0 = .slice none 0 0 ∧ n0 = 0) ∨ ∃ g' o' m' c', u0 = .slice (some ⟨g', o', none⟩) m' c' ∧ n0 ≤ m' ∧ m' ≤ c' ∧ Hid (BytV wr (.slice (some ⟨g', o', none⟩) n0 c') l0) := by
          rcases hB.out with ⟨q1, q2⟩ | ⟨g', o', c', cur, fz, q1, _, hh, hc', _, _, _, hbb⟩
          · exact .inl ⟨q1, by rw [HN0.out, (List.append_eq_nil_iff.1 q2).1]; rfl⟩
          · refine .inr ⟨g', o', _, c', q1, by rw [HN0.out]; simp, hc', Lib.hid (.inr ⟨g', o', c', by rw [HN0.out], ?_, fun j hj => ?_, (Array.getElem?_eq_some_iff.1 hh).1⟩)⟩
            · simp at hc'; omega
            · rw [cell_of_row wr g' (o' + j) cur _ fz hh, hbb j (by simp; omega), atL_app_left _ _ j hj]
        rcases hsh with ⟨rfl, hz⟩ | ⟨g', o', m', c', rfl, hm1, hm2, hby⟩
        · subst hz
          have hl0 : l0 = [] := List.eq_nil_of_length_eq_zero HN0.out.symm
          subst hl0
          go_wp2_with fail
          refine HE.out.mono ?_
          rintro e w2 ⟨s', rfl, h2, g2, her, k2⟩
          obtain ⟨x, c3, _, e2⟩ := h2.sc.c3
          obtain ⟨p, rfl, hp, hs⟩ := e2 (her rfl)
          have H2 := Lib.hid h2.sc
          have G2 := Lib.hid (hF.out.trans (g2.fr hbS (Nat.lt_succ_self S) HGH.out))
          have P2 := Lib.hid (And.intro hp hs)
          clear h2 g2 her e2 k2 hF hB HE hp hs
          go_wp2
          refine wp_region_noPanic ?_
          go_quiet (fail)
          refine NoPanic.normal ?_
          go_wp2
          refine leaves_cons (f := 73) (args := #[.pointer (some ⟨S, 0, none⟩)]) (by simp) (by simp [go_sem]) ?_
          refine (freeX S (S + 1) s' _ _ (scDrew H2.out _)).mono ?_
          rintro e u' w3 ⟨rfl, rfl, g3, k3⟩
          have hF3 := (frDrew G2.out _).trans (g3.fr hbS (Nat.lt_succ_self S) HGH.out)
          have hp3 := (synDrew P2.out.2 _).same (k3 p (by have := P2.out.1; omega))
          simp [Leaves, settle, results, Tryd.results56, go_sem]
          exact ⟨_, _, rfl, (fun z => by cases z), fun _ => ⟨p, rfl, hp3, .inl ⟨rfl, rfl⟩⟩, hF3⟩
        · have hnS : ¬ g' = S := (hS.out.ap g' rfl).2.1
          go_wp2_with fail
          refine HE.out.mono ?_
          rintro e w2 ⟨s', rfl, h2, g2, her, k2⟩
          obtain ⟨x, c3, _, e2⟩ := h2.sc.c3
          obtain ⟨p, rfl, hp, hs⟩ := e2 (her rfl)
          have H2 := Lib.hid h2.sc
          have G2 := Lib.hid (hF.out.trans (g2.fr hbS (Nat.lt_succ_self S) HGH.out))
          have P2 := Lib.hid (And.intro hp hs)
          have BV2 : Hid (BytV w2 (.slice (some ⟨g', o', none⟩) n0 c') l0) := Lib.hid (hby.out.kept k2 g2.size)
          have hcc : n0 ≤ c' := by omega
          clear h2 g2 her e2 k2 hF hB HE hp hs hby
          go_wp2
          refine wp_region_noPanic ?_
          go_quiet (fail)
          refine NoPanic.normal ?_
          go_wp2
          refine leaves_cons (f := 73) (args := #[.pointer (some ⟨S, 0, none⟩)]) (by simp) (by simp [go_sem]) ?_
          refine (freeX S (S + 1) s' _ _ (scDrew H2.out _)).mono ?_
          rintro e u' w3 ⟨rfl, rfl, g3, k3⟩
          have hF3 := (frDrew G2.out _).trans (g3.fr hbS (Nat.lt_succ_self S) HGH.out)
          have hp3 := (synDrew P2.out.2 _).same (k3 p (by have := P2.out.1; omega))
          have hb3 := (bvDrew BV2.out _).kept (fun q hq => k3 q (by obtain rfl : g' = q := Option.some.inj hq; exact hnS)) g3.size
          simp [Leaves, settle, results, Tryd.results56, go_sem]
          exact ⟨_, _, rfl, (fun z => by cases z), fun _ => ⟨p, rfl, hp3, hb3⟩, hF3⟩
      · have hfin : Hid (Q = out ++ tailL l sv) := Lib.hid (by rw [HQ.out]; unfold compL; rw [← HN.out, hC.out])
        have hmr := HM.out wr hF.out
        by_cases hlt : sv < k
        · have hcs : ¬ cap = sv := by omega
          have htl : Hid (tailL l sv = (l.drop sv).take (k - sv)) := Lib.hid (by unfold tailL; rw [if_pos (by have := HN.out; omega), List.take_of_length_le (by rw [List.length_drop, ← HN.out]; exact Nat.le_refl _)])
          go_wp2_with fail
          refine HE.out.mono ?_
          rintro e w2 ⟨s', rfl, h2, g2, her, k2⟩
          have H2 := Lib.hid h2
          have hFa := hF.out.trans (g2.fr hbS (Nat.lt_succ_self S) HGH.out)
          have hMa := HM.out w2 hFa
          have hBa := hB.out.kept k2
          clear h2 g2 her k2 hF hB HE
          go_wp2_with (at_builtin; refine wpList_append_buf rfl (.tmp 145) (.tmp 148) 56 rfl w2.heap.size (place u0) u0 (l0 ++ out) rfl hBa.rebase _ _ rfl (src_part hMa sv k (cap - sv) (Nat.le_of_lt hlt) (by rw [← HN.out]; exact Nat.le_refl _)) ?c1 (Nat.le_refl _) hBa.place_lt ?_)
          case c1 => have := HSZ.out; simp; omega
          intro v1 w4 hb1 hg1 hf1 _
          obtain ⟨hS4, hB4, hF4⟩ := H2.out.more hBa (Nat.le_trans HBM.out hFa.size) HGH.out hb1 hg1 hf1
          have H2 := Lib.hid hS4.sc
          have HF := Lib.hid (hFa.trans hF4)
          have HA : Hid (∀ q, v1.ownBlock = some q → q ≠ S) := Lib.hid fun q hq => (hS4.ap q hq).2.1
          have HB : Hid (Buf w4 base G v1 (l0 ++ Q)) := Lib.hid (by rw [hfin.out, htl.out]; exact hB4)
          clear hb1 hg1 hf1 hS4 hB4 hF4 hBa hMa hFa
          go_wp2
          refine leaves_cons (f := 73) (args := #[.pointer (some ⟨S, 0, none⟩)]) (by simp) (by simp [go_sem]) ?_
          refine (freeX S (S + 1) s' _ _ H2.out).mono ?_
          rintro e u' w3 ⟨rfl, rfl, g3, k3⟩
          have hF3 := HF.out.trans (g3.fr hbS (Nat.lt_succ_self S) HGH.out)
          have hb3 := HB.out.kept (fun q hq => k3 q (HA.out q hq))
          simp [Leaves, settle, results, Tryd.results56, go_sem]
          exact ⟨_, _, rfl, (fun _ => ⟨rfl, hb3⟩), (fun z => by cases z), hF3⟩
        · have htl : Hid (tailL l sv = []) := Lib.hid (by unfold tailL; rw [if_neg (by have := HN.out; omega)])
          go_wp2_with fail
          refine HE.out.mono ?_
          rintro e w2 ⟨s', rfl, h2, g2, her, k2⟩
          have HA : Hid (∀ q, u0.ownBlock = some q → q ≠ S) := Lib.hid fun q hq => (h2.ap q hq).2.1
          have H2 := Lib.hid h2.sc
          have HF := Lib.hid (hF.out.trans (g2.fr hbS (Nat.lt_succ_self S) HGH.out))
          have HB : Hid (Buf w2 base G u0 (l0 ++ Q)) := Lib.hid (by rw [hfin.out, htl.out, List.append_nil]; exact hB.out.kept k2)
          clear h2 g2 her k2 hF hB HE
          go_wp2
          refine leaves_cons (f := 73) (args := #[.pointer (some ⟨S, 0, none⟩)]) (by simp) (by simp [go_sem]) ?_
          refine (freeX S (S + 1) s' _ _ H2.out).mono ?_
          rintro e u' w3 ⟨rfl, rfl, g3, k3⟩
          have hF3 := HF.out.trans (g3.fr hbS (Nat.lt_succ_self S) HGH.out)
          have hb3 := HB.out.kept (fun q hq => k3 q (HA.out q hq))
          simp [Leaves, settle, results, Tryd.results56, go_sem]
          exact ⟨_, _, rfl, (fun _ => ⟨rfl, hb3⟩), (fun z => by cases z), hF3⟩
end Go.Proofs.YtklncgmfbflooaaDoor
