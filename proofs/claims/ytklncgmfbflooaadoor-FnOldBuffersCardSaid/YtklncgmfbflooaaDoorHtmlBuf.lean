/- HTMLEscape over a bytes.Buffer, walked. -/
import Derived.Test.YtklncgmfbflooaaDoorBufNew
import Derived.Test.YtklncgmfbflooaaDoorBufWrite
namespace Go.Proofs.YtklncgmfbflooaaDoor
open Go.RowKit
theorem escF_pos (m : List UInt8) (h : 1 ≤ m.length) : 1 ≤ (escF 0 m).length := by
  match m, h with
  | c :: r, _ => unfold escF; (repeat' split) <;> simp
/-- The bytes ahead of the place that is written behind, stay. -/
theorem Buf.ahead {w w' : World} {base g o l c : Nat} {L : List UInt8} (hL : L.length = l) (h : Buf w 0 none (.slice (some ⟨g, o, none⟩) l c) L) (f : Fr base (some (g, o + l)) w w') : Buf w' 0 none (.slice (some ⟨g, o, none⟩) l c) L := by
  rcases h with ⟨e, _⟩ | ⟨g', o', cap, cur, fz, e, hgb, hh, hlc, hcm, hoc, hfz, hcl⟩
  · cases e
  · cases e
    obtain ⟨cur', hh', hs'⟩ := f.row g _ rfl cur _ fz hh
    refine .inr ⟨g, o, c, cur', fz, rfl, .inl (Nat.zero_le _), hh', hlc, hcm, by omega, hfz, fun j hj => ?_⟩
    have h1 := f.head g _ rfl (o + j) (by omega)
    rw [cell_of_row w' g (o + j) cur' _ fz hh', cell_of_row w g (o + j) cur _ fz hh] at h1
    rw [h1]
    exact hcl j hj
/-- The room behind a buffer's bytes. -/
theorem Buf.behind {w : World} {g o l c : Nat} {L : List UInt8} (hL : L.length = l) (h : Buf w 0 none (.slice (some ⟨g, o, none⟩) l c) L) : Buf w w.heap.size (some (g, o + l)) (.slice (some ⟨g, o + l, none⟩) 0 (c - l)) [] := by
  rcases h with ⟨e, _⟩ | ⟨g', o', cap, cur, fz, e, hgb, hh, hlc, hcm, hoc, hfz, hcl⟩
  · cases e
  · cases e
    exact .inr ⟨g, o + L.length, c - L.length, cur, fz, rfl, .inr rfl, hh, Nat.zero_le _, by omega, by omega, by simp; omega, fun j hj => absurd hj (Nat.not_lt_zero _)⟩
def HEPost (p g : Nat) (M : List UInt8) (w : World) (e : Ending) (w' : World) : Prop :=
  ∃ g1 o1 c1, e = .returned (.tuple #[]) ∧ BHead w' p (.slice (some ⟨g1, o1, none⟩) M.length c1) ∧ Buf w' 0 none (.slice (some ⟨g1, o1, none⟩) M.length c1) M ∧ M.length ≤ c1 ∧ Gq p g w w'
set_option maxHeartbeats 4000000 in
theorem htmlEscapeS (p g o c t tc : Nat) (L m : List UInt8) (w : World) (h : BHead w p (.slice (some ⟨g, o, none⟩) L.length c)) (hB : Buf w 0 none (.slice (some ⟨g, o, none⟩) L.length c) L) (hpg : g ≠ p) (hlc : L.length ≤ c) (hc : c ≤ maxLen) (hL : L.length ≤ 1000000)
    (hm : BytesAt w t 0 m) (hm1 : 1 ≤ m.length) (hm2 : m.length ≤ 1000000) (hmc : m.length ≤ tc) (htc : tc ≤ maxLen) (htp : t ≠ p) (htg : t ≠ g) (htw : t < w.heap.size) :
    Calls Tryd.prog 25 #[.pointer (some ⟨p, 0, none⟩), .slice (some ⟨t, 0, none⟩) m.length tc] w (HEPost p g (L ++ escF 0 m) w) := by
  have hG := Lib.hid (GrowS p g o c m.length L w h hB hpg hlc hc (by omega) (by omega))
  have hE1 := escF_pos m hm1
  have hE2 := escF_length m 0
  obtain ⟨E, hE⟩ : ∃ E, E = escF 0 m := ⟨_, rfl⟩
  have HA : Hid (∀ g1 o1 c1 W, BHead W p (.slice (some ⟨g1, o1, none⟩) L.length c1) → Buf W 0 none (.slice (some ⟨g1, o1, none⟩) L.length c1) L → g1 ≠ p → g1 ≠ t → Gp p w W → (g1 = g ∨ w.heap.size ≤ g1) → L.length ≤ c1 → c1 ≤ maxLen →
      Calls Tryd.prog 45 #[.slice (some ⟨g1, o1 + L.length, none⟩) 0 (c1 - L.length), .slice (some ⟨t, 0, none⟩) m.length tc] W (fun e W3 => ∃ v2, e = .returned v2 ∧ Calls Tryd.prog 44 #[.pointer (some ⟨p, 0, none⟩), v2] W3 (fun e2 W4 => (∃ q, e2 = .returned (.tuple #[.int .i64 q, .nilIface])) ∧ HEPost p g (L ++ E) w (.returned (.tuple #[])) W4))) := fun g1 o1 c1 W a b d dt G hor hl1 hcm => by
    have hmW : BytesAt W t 0 m := fun j hj => (World.cell?_of_block (a := ⟨t, 0 + j, none⟩) (G.block t htw htp)).trans (hm j hj)
    have hg1 : g1 < W.heap.size := b.block g1 rfl
    have hap := appendHTML W.heap.size (some (g1, o1 + L.length)) _ [] t tc m W (b.behind rfl) hmW hmc htc (by simp; omega) (Nat.le_refl _) (by intro g' o' e; injection e with e; injection e with e1 e2; omega) (by have := G.size; omega) (by intro o' e; injection e with e; injection e with e1 e2; exact dt e1)
    refine hap.mono ?_
    rintro e W3 ⟨v2, rfl, b2, f2⟩
    rw [List.nil_append, ← hE] at b2
    refine ⟨v2, rfl, ?_⟩
    have bp := f2.block p a.lt (by intro o' e; injection e with e; injection e with e1 e2; exact d e1)
    obtain ⟨r, hr2⟩ := a.c2
    have a3 : BHead W3 p (.slice (some ⟨g1, o1, none⟩) L.length c1) := ⟨(World.cell?_of_block (a := ⟨p, 0, none⟩) bp).trans a.c0, (World.cell?_of_block (a := ⟨p, 1, none⟩) bp).trans a.c1, ⟨r, (World.cell?_of_block (a := ⟨p, 2, none⟩) bp).trans hr2⟩, fun j => by have := a.fz j; unfold World.frozen? at this ⊢; rw [bp]; exact this, Nat.lt_of_lt_of_le a.lt f2.size⟩
    have b3 := b.ahead rfl f2
    rcases b2 with ⟨_, e⟩ | ⟨g2, o2, c2, cur, fz, rfl, hgb, hh, _, _, _, _, hcl⟩
    · rw [hE] at e; rw [e] at hE1; simp at hE1
    · have hby : BytesAt W3 g2 o2 E := fun j hj => by rw [cell_of_row W3 g2 (o2 + j) cur _ fz hh]; exact hcl j hj
      have hg2p : g2 ≠ p := by
        rcases hgb with q | q
        · have := a.lt; omega
        · injection q with q; injection q with q1 q2; omega
      have := writeS p g1 o1 c1 g2 o2 c2 L E W3 a3 b3 d hl1 hcm (by omega) (by rw [hE]; exact hE1) (by rw [hE]; omega) hby hg2p (Array.getElem?_eq_some_iff.1 hh).1
      refine this.mono ?_
      rintro e W4 ⟨g4, o4, c4, q, rfl, s1, s2, s3, s4⟩
      exact ⟨⟨q, rfl⟩, g4, o4, c4, rfl, s1, s2, s3, ⟨s4.os.trans (f2.os.trans G.os), s4.tape.trans (f2.tape.trans G.tape), s4.output.trans (f2.output.trans G.output), Nat.le_trans G.size (Nat.le_trans f2.size s4.size), fun k hk hp hg => by
        have n1 : k ≠ g1 := by rcases hor with z | z <;> omega
        exact (s4.block k (by have := G.size; have := f2.size; omega) hp n1).trans ((f2.block k (by have := G.size; omega) (by intro o' e; injection e with e; injection e with e1 e2; exact n1 e1.symm)).trans (G.block k hk hp))⟩⟩
  rw [← hE]
  have hmn : 0 ≤ (m.length : Int) := by omega
  have HM1 := Lib.hid hm1
  clear h hB hm hE1 hE2 hE hm1
  go_enter Tryd.func25, Tryd.ntmps25
  go_wp2_with fail
  refine hG.out.mono ?_
  rintro e w1 ⟨g1, o1, c1, rfl, hh, hb, hle, hne, hgp, hor⟩
  have hcm : c1 ≤ maxLen := by
    rcases hb with ⟨e, _⟩ | ⟨g', o', cap, cur, fz, e, _, _, _, hcm, _⟩
    · cases e
    · cases e; exact hcm
  have hlt : L.length < c1 := by have := HM1.out; omega
  have hor2 : g1 = g ∨ w.heap.size ≤ g1 := hor.elim (fun z => .inl z.1) .inr
  have hg1t : g1 ≠ t := by rcases hor2 with z | z <;> omega
  have HAV := Lib.hid (availS p g1 o1 L.length c1 w1 hh hlt)
  have HA2 : Hid (∀ k, Calls Tryd.prog 45 #[.slice (some ⟨g1, o1 + L.length, none⟩) 0 (c1 - L.length), .slice (some ⟨t, 0, none⟩) m.length tc] (w1.drewN k) (fun e W3 => ∃ v2, e = .returned v2 ∧ Calls Tryd.prog 44 #[.pointer (some ⟨p, 0, none⟩), v2] W3 (fun e2 W4 => (∃ q, e2 = .returned (.tuple #[.int .i64 q, .nilIface])) ∧ HEPost p g (L ++ E) w (.returned (.tuple #[])) W4))) := fun k =>
    HA.out g1 o1 c1 (w1.drewN k) (hh.drewN k) (hb.drewN k) hne hg1t (hgp.drewN k) hor2 (by omega) hcm
  clear HA hh hb hle hne hgp hor hcm hor2 hg1t hG
  go_wp2_with fail
  refine HAV.out.mono ?_
  rintro e w2 ⟨rfl, k, rfl⟩
  go_wp2_with fail
  refine (HA2.out k).mono ?_
  rintro e w3 ⟨v2, rfl, hW⟩
  have HW := Lib.hid hW
  clear hW HA2 HAV
  go_wp2_with fail
  refine HW.out.mono ?_
  rintro e w4 ⟨⟨q, rfl⟩, hfin⟩
  have HF := Lib.hid hfin
  clear hfin HW
  go_wp2
  go_end0
  exact HF.out
end Go.Proofs.YtklncgmfbflooaaDoor
