/- Compact and Indent over a bytes.Buffer, impl.OldCompact, impl.OldIndent: walked. -/
import Derived.Test.YtklncgmfbflooaaDoorBufNone
import Derived.Test.YtklncgmfbflooaaDoorTaken
import Derived.Deep.RegionLaw
namespace Go.Proofs.YtklncgmfbflooaaDoor
open Go.RowKit
/-- What a buffer holds behind it. -/
def bodyL (b : Bool) (L M : List UInt8) : List UInt8 := if b = true then M else L
def CBPost (b : Bool) (p g : Nat) (L M : List UInt8) (w : World) (e : Ending) (w' : World) : Prop :=
  ∃ x, e = .returned x ∧ (b = true → x = .nilIface) ∧ (b = false → ∃ q, x = .iface 94 (.pointer (some ⟨q, 0, none⟩)) ∧ SynAt w' q) ∧
    ∃ g1 o1 c1, BHead w' p (.slice (some ⟨g1, o1, none⟩) (bodyL b L M).length c1) ∧ Buf w' 0 none (.slice (some ⟨g1, o1, none⟩) (bodyL b L M).length c1) (bodyL b L M) ∧ (bodyL b L M).length ≤ c1 ∧ Gq p g w w'
/-- What is written behind an appending. -/
def WCPost (b : Bool) (p g : Nat) (L M : List UInt8) (w : World) (e : Ending) (W3 : World) : Prop :=
  ∃ v2 x, e = .returned (.tuple #[v2, x]) ∧ Calls Tryd.prog 44 #[.pointer (some ⟨p, 0, none⟩), v2] W3 (fun e2 W4 => (∃ q, e2 = .returned (.tuple #[.int .i64 q, .nilIface])) ∧ CBPost b p g L M w (.returned x) W4)
theorem head_syn {w : World} {p q n c : Nat} {v : Option Addr} (h : BHead w p (.slice v n c)) (hs : SynAt w q) : q ≠ p := fun e => by
  subst e
  obtain ⟨m, k, hk⟩ := hs
  have := h.c0
  rw [cell_of_row w q 0 _ _ _ hk] at this
  simp at this
/-- Nothing is written: the buffer stays as it is. -/
theorem write_none {p g g1 o1 c1 : Nat} {L M : List UInt8} {w W : World} (b : Bool) (x : Value) (a2 : Option Addr) (c2 : Nat) (hx1 : b = true → x = .nilIface) (hx2 : b = false → ∃ q, x = .iface 94 (.pointer (some ⟨q, 0, none⟩)) ∧ SynAt W q)
    (hM : bodyL b L M = L) (hh : BHead W p (.slice (some ⟨g1, o1, none⟩) L.length c1)) (hb : Buf W 0 none (.slice (some ⟨g1, o1, none⟩) L.length c1) L) (hne : g1 ≠ p) (hlc : L.length ≤ c1) (hcm : c1 ≤ maxLen) (hL : L.length ≤ 1000000) (hG : Gq p g w W) :
    Calls Tryd.prog 44 #[.pointer (some ⟨p, 0, none⟩), .slice a2 0 c2] W (fun e2 W4 => (∃ q, e2 = .returned (.tuple #[.int .i64 q, .nilIface])) ∧ CBPost b p g L M w (.returned x) W4) := by
  refine (write0 p g1 o1 L.length c1 a2 c2 W hh hlc hcm (by omega)).mono ?_
  rintro e w' ⟨⟨m, rfl⟩, rfl⟩
  have G4 : Gp p W ((W.setCell ⟨p, 2, none⟩ (.int .i8 0)).setCell ⟨p, 0, none⟩ (.slice (some ⟨g1, o1, none⟩) L.length c1)) := ((Gp.refl p W).set _ _).set _ _
  refine ⟨⟨m, rfl⟩, x, rfl, hx1, fun hz => ?_, g1, o1, c1, ?_, ?_, by rw [hM]; exact hlc, ?_⟩
  · obtain ⟨q, rfl, hs⟩ := hx2 hz
    exact ⟨q, rfl, hs.same (G4.block q hs.lt (head_syn hh hs))⟩
  · rw [hM]; exact (hh.set2 0).set _
  · rw [hM]; exact (hb.setP hne _).setP hne _
  · exact ⟨G4.os.trans hG.os, G4.tape.trans hG.tape, G4.output.trans hG.output, Nat.le_trans hG.size G4.size, fun k hk hp hg => (G4.block k (Nat.lt_of_lt_of_le hk hG.size) hp).trans (hG.block k hk hp hg)⟩
theorem head_kept {w w' : World} {p : Nat} {v : Value} (a : BHead w p v) (bp : w'.heap[p]? = w.heap[p]?) (hs : w.heap.size ≤ w'.heap.size) : BHead w' p v := by
  obtain ⟨r, hr2⟩ := a.c2
  exact ⟨(World.cell?_of_block (a := ⟨p, 0, none⟩) bp).trans a.c0, (World.cell?_of_block (a := ⟨p, 1, none⟩) bp).trans a.c1, ⟨r, (World.cell?_of_block (a := ⟨p, 2, none⟩) bp).trans hr2⟩, fun j => by have := a.fz j; unfold World.frozen? at this ⊢; rw [bp]; exact this, Nat.lt_of_lt_of_le a.lt hs⟩
/-- What is appended behind a buffer's bytes, is written there. -/
theorem app_write {b : Bool} {p g g1 o1 c1 : Nat} {L E : List UInt8} {w W W3 : World} {e : Ending} (a : BHead W p (.slice (some ⟨g1, o1, none⟩) L.length c1)) (hb : Buf W 0 none (.slice (some ⟨g1, o1, none⟩) L.length c1) L) (d : g1 ≠ p) (G : Gp p w W) (hor : g1 = g ∨ w.heap.size ≤ g1)
    (hl1 : L.length ≤ c1) (hcm : c1 ≤ maxLen) (hL : L.length ≤ 1000000) (hE : E.length ≤ 100000000) (h : CmpPost b W.heap.size (some (g1, o1 + L.length)) [] E W e W3) : WCPost b p g L (L ++ E) w e W3 := by
  obtain ⟨v', x, rfl, hT, hF, f2⟩ := h
  have bp := f2.block p a.lt (by intro o' e; injection e with e; injection e with e1 e2; exact d e1)
  have a3 := head_kept a bp f2.size
  have b3 := hb.ahead rfl f2
  have hGq : Gq p g w W3 := ⟨f2.os.trans G.os, f2.tape.trans G.tape, f2.output.trans G.output, Nat.le_trans G.size f2.size, fun k hk hp hg => by
    have n1 : k ≠ g1 := by rcases hor with z | z <;> omega
    exact (f2.block k (by have := G.size; omega) (by intro o' e; injection e with e; injection e with e1 e2; exact n1 e1.symm)).trans (G.block k hk hp)⟩
  cases b
  · obtain ⟨q, rfl, hs, hby⟩ := hF rfl
    have hM : bodyL false L (L ++ E) = L := rfl
    rcases hby with ⟨rfl, _⟩ | ⟨g4, o4, c4, rfl, _, _, _⟩
    · exact ⟨_, _, rfl, write_none false _ none 0 (fun z => by cases z) (fun _ => ⟨q, rfl, hs⟩) hM a3 b3 d hl1 hcm hL hGq⟩
    · exact ⟨_, _, rfl, write_none false _ (some ⟨g4, o4, none⟩) c4 (fun z => by cases z) (fun _ => ⟨q, rfl, hs⟩) hM a3 b3 d hl1 hcm hL hGq⟩
  · obtain ⟨rfl, b2⟩ := hT rfl
    rcases b2 with ⟨rfl, rfl⟩ | ⟨g2, o2, c2, cur, fz, rfl, hgb, hh, _, _, _, _, hcl⟩
    · exact ⟨_, _, rfl, write_none true _ none 0 (fun _ => rfl) (fun z => by cases z) (by simp [bodyL]) a3 b3 d hl1 hcm hL hGq⟩
    · by_cases hE0 : E = []
      · subst hE0
        exact ⟨_, _, rfl, write_none true _ (some ⟨g2, o2, none⟩) c2 (fun _ => rfl) (fun z => by cases z) (by simp [bodyL]) a3 b3 d hl1 hcm hL hGq⟩
      · have hE1 : 1 ≤ E.length := by
          cases E with
          | nil => exact absurd rfl hE0
          | cons _ _ => simp
        have hby : BytesAt W3 g2 o2 E := fun j hj => by rw [cell_of_row W3 g2 (o2 + j) cur _ fz hh]; exact hcl j hj
        have hg2p : g2 ≠ p := by
          rcases hgb with q | q
          · have := a.lt; omega
          · injection q with q; injection q with q1 q2; omega
        refine ⟨_, _, rfl, (writeS p g1 o1 c1 g2 o2 c2 L E W3 a3 b3 d hl1 hcm (by omega) hE1 hE hby hg2p (Array.getElem?_eq_some_iff.1 hh).1).mono ?_⟩
        rintro e W4 ⟨g4, o4, c4, q, rfl, s1, s2, s3, s4⟩
        exact ⟨⟨q, rfl⟩, _, rfl, fun _ => rfl, fun z => (by cases z), g4, o4, c4, s1, s2, s3, s4.os.trans hGq.os, s4.tape.trans hGq.tape, s4.output.trans hGq.output, Nat.le_trans hGq.size s4.size, fun k hk hp hg => by
          have n1 : k ≠ g1 := by rcases hor with z | z <;> omega
          exact (s4.block k (Nat.lt_of_lt_of_le hk hGq.size) hp n1).trans (hGq.block k hk hp hg)⟩
/-- An empty text behind a buffer's bytes. -/
theorem none_write {p g g1 o1 c1 : Nat} {L M : List UInt8} {w W W3 : World} {e : Ending} {a2 : Addr} {c2 : Nat} (a : BHead W p (.slice (some ⟨g1, o1, none⟩) L.length c1)) (hb : Buf W 0 none (.slice (some ⟨g1, o1, none⟩) L.length c1) L) (d : g1 ≠ p) (G : Gp p w W)
    (hl1 : L.length ≤ c1) (hcm : c1 ≤ maxLen) (hL : L.length ≤ 1000000) (h : A0Post (.slice (some a2) 0 c2) W e W3) : WCPost false p g L M w e W3 := by
  obtain ⟨q, rfl, hs, hbel⟩ := h
  have a3 := a.below hbel
  have b3 : Buf W3 0 none (.slice (some ⟨g1, o1, none⟩) L.length c1) L := hb.below hbel (fun k e => hb.block k e)
  have hGq : Gq p g w W3 := ⟨hbel.os.trans G.os, hbel.tape.trans G.tape, hbel.output.trans G.output, Nat.le_trans G.size hbel.size, fun k hk hp _ => (hbel.block k (Nat.lt_of_lt_of_le hk G.size)).trans (G.block k hk hp)⟩
  exact ⟨_, _, rfl, write_none false _ (some a2) c2 (fun z => by cases z) (fun _ => ⟨q, rfl, hs⟩) rfl a3 b3 d hl1 hcm hL hGq⟩
set_option maxHeartbeats 4000000 in
theorem compactB (p g o c t tc : Nat) (L m : List UInt8) (w : World) (h : BHead w p (.slice (some ⟨g, o, none⟩) L.length c)) (hB : Buf w 0 none (.slice (some ⟨g, o, none⟩) L.length c) L) (hpg : g ≠ p) (hlc : L.length ≤ c) (hc : c ≤ maxLen) (hL : L.length ≤ 1000000)
    (hm : BytesAt w t 0 m) (hm2 : m.length ≤ 1000) (hmc : m.length ≤ tc) (htp : t ≠ p) (htg : t ≠ g) (htw : t < w.heap.size) :
    Calls Tryd.prog 36 #[.pointer (some ⟨p, 0, none⟩), .slice (some ⟨t, 0, none⟩) m.length tc] w (CBPost (takenB m) p g L (L ++ compL false m) w) := by
  have hG := Lib.hid (GrowS p g o c (m.length) L w h hB hpg hlc hc (by omega) (by omega))
  have HA : Hid (∀ g1 o1 c1 W, BHead W p (.slice (some ⟨g1, o1, none⟩) L.length c1) → Buf W 0 none (.slice (some ⟨g1, o1, none⟩) L.length c1) L → g1 ≠ p → g1 ≠ t → Gp p w W → (g1 = g ∨ w.heap.size ≤ g1) → L.length + m.length ≤ c1 → c1 ≤ maxLen →
      ∃ v, Calls Tryd.prog 46 #[.pointer (some ⟨p, 0, none⟩)] W (AvPost v W) ∧ ∀ k, Calls Tryd.prog 56 #[v, .slice (some ⟨t, 0, none⟩) m.length tc, .bool false] (W.drewN k) (WCPost (takenB m) p g L (L ++ compL false m) w)) := Lib.hid fun g1 o1 c1 W a hb d dt G hor hl1 hcm => by
    have hmW : BytesAt W t 0 m := fun j hj => (World.cell?_of_block (a := ⟨t, 0 + j, none⟩) (G.block t htw htp)).trans (hm j hj)
    have hg1 : g1 < W.heap.size := hb.block g1 rfl
    by_cases hm0 : m = []
    · subst hm0
      by_cases hcl : c1 = L.length
      · subst hcl
        refine ⟨_, avail0 p g1 o1 L.length W a, fun k => ?_⟩
        exact (appendCompact0 ⟨g1, o1, none⟩ 0 t tc (W.drewN k)).mono fun e W3 hA => none_write (a.drewN k) (hb.drewN k) d (G.drewN k) (Nat.le_refl _) hcm hL hA
      · refine ⟨_, availS p g1 o1 L.length c1 W a (by simp at hl1; omega), fun k => ?_⟩
        exact (appendCompact0 ⟨g1, o1 + L.length, none⟩ (c1 - L.length) t tc (W.drewN k)).mono fun e W3 hA => none_write (a.drewN k) (hb.drewN k) d (G.drewN k) (by simp at hl1; omega) hcm hL hA
    · have hm1 : 1 ≤ m.length := by
        cases m with
        | nil => exact absurd rfl hm0
        | cons _ _ => simp
      refine ⟨_, availS p g1 o1 L.length c1 W a (by omega), fun k => ?_⟩
      have a := a.drewN k
      have hb := hb.drewN k
      have G := G.drewN k
      have hmW : BytesAt (W.drewN k) t 0 m := fun j hj => by have := hmW j hj; cases k <;> exact this
      have hg1 : g1 < (W.drewN k).heap.size := hb.block g1 rfl
      generalize W.drewN k = W at a hb G hmW hg1 ⊢
      exact (appendCompactS W.heap.size (some (g1, o1 + L.length)) _ [] t tc m false W (hb.behind rfl) hmW hmc (by omega) (by simp) (Nat.le_refl _) (by intro g' o' e; injection e with e; injection e with e1 e2; omega) (by have := G.size; omega) (by intro o' e; injection e with e; injection e with e1 e2; exact dt e1)).mono fun e W3 hA => app_write a hb d G hor (by omega) hcm hL (by have := compL_len false m; omega) hA
  generalize L ++ compL false m = M at HA ⊢
  generalize takenB m = b at HA ⊢
  have hmn : 0 ≤ (m.length : Int) := by omega
  have hm3 : (m.length : Int) ≤ 1000 := by omega
  have hwr : ((2 * m.length : Nat) : Int) = 2 * (m.length : Int) := by omega
  clear h hB hm
  generalize m.length = n at *
  go_enter Tryd.func36, Tryd.ntmps36
  go_wp2_with fail
  refine hG.out.mono ?_
  rintro e w1 ⟨g1, o1, c1, rfl, hh, hb, hle, hne, hgp, hor⟩
  have hcm : c1 ≤ maxLen := by
    rcases hb with ⟨e, _⟩ | ⟨g', o', cap, cur, fz, e, _, _, _, hcm, _⟩
    · cases e
    · cases e; exact hcm
  have hor2 : g1 = g ∨ w.heap.size ≤ g1 := hor.elim (fun z => .inl z.1) .inr
  have hg1t : g1 ≠ t := by rcases hor2 with z | z <;> omega
  obtain ⟨v, hav, hap⟩ := HA.out g1 o1 c1 w1 hh hb hne hg1t hgp hor2 hle hcm
  have HAV := Lib.hid hav
  have HAP := Lib.hid hap
  clear HA hh hb hle hne hgp hor hcm hor2 hg1t hG hav hap hlc hc hL hpg
  go_wp2_with fail
  refine HAV.out.mono ?_
  rintro e w2 ⟨rfl, k, rfl⟩
  go_wp2_with fail
  refine (HAP.out k).mono ?_
  rintro e w3 ⟨v2, x, rfl, hW⟩
  have HW := Lib.hid hW
  clear hW HAP HAV
  go_wp2_with fail
  refine HW.out.mono ?_
  rintro e w4 ⟨⟨q, rfl⟩, hfin⟩
  have HF := Lib.hid hfin
  clear hfin HW
  go_wp2
  go_ret
  exact HF.out
theorem indL_le (pre ind : ByteArray) (m : List UInt8) (hpre : pre.size ≤ 16) (hind : ind.size ≤ 16) (hm : m.length ≤ 1000) : (indL pre.data.toList ind.data.toList m).length ≤ 100000000 := by
  have h := (iSt_bnd pre.data.toList ind.data.toList m (by rw [size_list]; exact hpre) (by rw [size_list]; exact hind) m.length)
  obtain ⟨_, _, h3⟩ := h
  have : m.length * (100 + 64 * m.length) ≤ 1000 * (100 + 64 * 1000) := Nat.mul_le_mul (by omega) (by omega)
  unfold indL
  omega
set_option maxHeartbeats 4000000 in
theorem indentB (p g o c t tc : Nat) (L m : List UInt8) (pre ind : ByteArray) (w : World) (h : BHead w p (.slice (some ⟨g, o, none⟩) L.length c)) (hB : Buf w 0 none (.slice (some ⟨g, o, none⟩) L.length c) L) (hpg : g ≠ p) (hlc : L.length ≤ c) (hc : c ≤ maxLen) (hL : L.length ≤ 1000000)
    (hm : BytesAt w t 0 m) (hm2 : m.length ≤ 1000) (hmc : m.length ≤ tc) (htp : t ≠ p) (htg : t ≠ g) (htw : t < w.heap.size) (hpre : pre.size ≤ 16) (hind : ind.size ≤ 16) :
    Calls Tryd.prog 37 #[.pointer (some ⟨p, 0, none⟩), .slice (some ⟨t, 0, none⟩) m.length tc, .string pre, .string ind] w (CBPost (takenB m) p g L (L ++ indL pre.data.toList ind.data.toList m) w) := by
  have hG := Lib.hid (GrowS p g o c (2 * m.length) L w h hB hpg hlc hc (by omega) (by omega))
  have HA : Hid (∀ g1 o1 c1 W, BHead W p (.slice (some ⟨g1, o1, none⟩) L.length c1) → Buf W 0 none (.slice (some ⟨g1, o1, none⟩) L.length c1) L → g1 ≠ p → g1 ≠ t → Gp p w W → (g1 = g ∨ w.heap.size ≤ g1) → L.length + 2 * m.length ≤ c1 → c1 ≤ maxLen →
      ∃ v, Calls Tryd.prog 46 #[.pointer (some ⟨p, 0, none⟩)] W (AvPost v W) ∧ ∀ k, Calls Tryd.prog 57 #[v, .slice (some ⟨t, 0, none⟩) m.length tc, .string pre, .string ind] (W.drewN k) (WCPost (takenB m) p g L (L ++ indL pre.data.toList ind.data.toList m) w)) := Lib.hid fun g1 o1 c1 W a hb d dt G hor hl1 hcm => by
    have hmW : BytesAt W t 0 m := fun j hj => (World.cell?_of_block (a := ⟨t, 0 + j, none⟩) (G.block t htw htp)).trans (hm j hj)
    have hg1 : g1 < W.heap.size := hb.block g1 rfl
    by_cases hm0 : m = []
    · subst hm0
      by_cases hcl : c1 = L.length
      · subst hcl
        refine ⟨_, avail0 p g1 o1 L.length W a, fun k => ?_⟩
        exact (appendIndent0 ⟨g1, o1, none⟩ 0 t tc pre ind (W.drewN k)).mono fun e W3 hA => none_write (a.drewN k) (hb.drewN k) d (G.drewN k) (Nat.le_refl _) hcm hL hA
      · refine ⟨_, availS p g1 o1 L.length c1 W a (by simp at hl1; omega), fun k => ?_⟩
        exact (appendIndent0 ⟨g1, o1 + L.length, none⟩ (c1 - L.length) t tc pre ind (W.drewN k)).mono fun e W3 hA => none_write (a.drewN k) (hb.drewN k) d (G.drewN k) (by simp at hl1; omega) hcm hL hA
    · have hm1 : 1 ≤ m.length := by
        cases m with
        | nil => exact absurd rfl hm0
        | cons _ _ => simp
      refine ⟨_, availS p g1 o1 L.length c1 W a (by omega), fun k => ?_⟩
      have a := a.drewN k
      have hb := hb.drewN k
      have G := G.drewN k
      have hmW : BytesAt (W.drewN k) t 0 m := fun j hj => by have := hmW j hj; cases k <;> exact this
      have hg1 : g1 < (W.drewN k).heap.size := hb.block g1 rfl
      generalize W.drewN k = W at a hb G hmW hg1 ⊢
      exact (appendIndentS W.heap.size (some (g1, o1 + L.length)) _ [] t tc m pre ind W (hb.behind rfl) hmW hmc (by omega) (by simp) hpre hind (Nat.le_refl _) (by intro g' o' e; injection e with e; injection e with e1 e2; omega) (by have := G.size; omega) (by intro o' e; injection e with e; injection e with e1 e2; exact dt e1)).mono fun e W3 hA => app_write a hb d G hor (by omega) hcm hL (indL_le pre ind m hpre hind hm2) hA
  generalize L ++ indL pre.data.toList ind.data.toList m = M at HA ⊢
  generalize takenB m = b at HA ⊢
  have hmn : 0 ≤ (m.length : Int) := by omega
  have hm3 : (m.length : Int) ≤ 1000 := by omega
  have hwr : ((2 * m.length : Nat) : Int) = 2 * (m.length : Int) := by omega
  clear h hB hm
  generalize m.length = n at *
  go_enter Tryd.func37, Tryd.ntmps37
  go_wp2_with fail
  refine hG.out.mono ?_
  rintro e w1 ⟨g1, o1, c1, rfl, hh, hb, hle, hne, hgp, hor⟩
  have hcm : c1 ≤ maxLen := by
    rcases hb with ⟨e, _⟩ | ⟨g', o', cap, cur, fz, e, _, _, _, hcm, _⟩
    · cases e
    · cases e; exact hcm
  have hor2 : g1 = g ∨ w.heap.size ≤ g1 := hor.elim (fun z => .inl z.1) .inr
  have hg1t : g1 ≠ t := by rcases hor2 with z | z <;> omega
  obtain ⟨v, hav, hap⟩ := HA.out g1 o1 c1 w1 hh hb hne hg1t hgp hor2 hle hcm
  have HAV := Lib.hid hav
  have HAP := Lib.hid hap
  clear HA hh hb hle hne hgp hor hcm hor2 hg1t hG hav hap hlc hc hL hpg
  go_wp2_with fail
  refine HAV.out.mono ?_
  rintro e w2 ⟨rfl, k, rfl⟩
  go_wp2_with fail
  refine (HAP.out k).mono ?_
  rintro e w3 ⟨v2, x, rfl, hW⟩
  have HW := Lib.hid hW
  clear hW HAP HAV
  go_wp2_with fail
  refine HW.out.mono ?_
  rintro e w4 ⟨⟨q, rfl⟩, hfin⟩
  have HF := Lib.hid hfin
  clear hfin HW
  go_wp2
  go_ret
  exact HF.out
/-- What stands behind the call over the buffer. -/
def ChainCompact (b : Bool) (p : Nat) (T : ByteArray) (w : World) (e : Ending) (W2 : World) : Prop :=
  ∃ x, e = .returned x ∧ (b = true → x = .nilIface) ∧ (b = false → ∃ q, x = .iface 94 (.pointer (some ⟨q, 0, none⟩)) ∧ SynAt W2 q) ∧
    ∃ s, (b = true → s = T) ∧ (∀ k, Calls Tryd.prog 26 #[.pointer (some ⟨p, 0, none⟩)] (W2.drewN k) (AvPost (.string s) (W2.drewN k))) ∧ Below w.heap.size w W2
set_option maxHeartbeats 2000000 in
theorem oldCompact (dst text : ByteArray) (w : World) (h1 : dst.size ≤ 1000) (h2 : text.size ≤ 1000) :
    Calls Tryd.prog 19 #[.string dst, .string text] w (TightPost (takenB text.data.toList) ⟨(dst.data.toList ++ compL false text.data.toList).toArray⟩ w) := by
  have HN := Lib.hid (newBufferS dst w h1)
  have hl1 := size_list dst
  have hl2 := size_list text
  have HE : Hid (∀ W c, BHead W (w.heap.size + 1) (.slice (some ⟨w.heap.size, 0, none⟩) dst.data.toList.length c) → Buf W 0 none (.slice (some ⟨w.heap.size, 0, none⟩) dst.data.toList.length c) dst.data.toList → dst.data.toList.length ≤ c → c ≤ maxLen → Below w.heap.size w W →
      Calls Tryd.prog 36 #[.pointer (some ⟨w.heap.size + 1, 0, none⟩), .slice (some ⟨W.heap.size, 0, none⟩) text.size (convCap W text)] (convWorld W text) (ChainCompact (takenB text.data.toList) (w.heap.size + 1) ⟨(dst.data.toList ++ compL false text.data.toList).toArray⟩ w)) := Lib.hid fun W c a b d f g => by
    have hbel := conv_below text W
    have hp := a.lt
    have hz := conv_size text W
    have a2 := a.below hbel
    have b2 : Buf (convWorld W text) 0 none (.slice (some ⟨w.heap.size, 0, none⟩) dst.data.toList.length c) dst.data.toList := b.below hbel (fun k e => by simp [Value.ownBlock] at e; omega)
    have := compactB (w.heap.size + 1) w.heap.size 0 c W.heap.size (convCap W text) dst.data.toList text.data.toList (convWorld W text) a2 b2 (by omega) d f (by omega) (conv_bytes text W) (by omega) (by rw [hl2]; exact convCap_ge _ _) (by omega) (by omega) (by omega)
    rw [hl2] at this
    refine this.mono ?_
    rintro e W2 ⟨x, rfl, hx1, hx2, g1, o1, c1, s1, s2, s3, s4⟩
    have hq : Below w.heap.size w W2 := by
      have t := g.trans (hbel.mono g.size)
      exact ⟨s4.os.trans t.os, s4.tape.trans t.tape, s4.output.trans t.output, Nat.le_trans t.size s4.size, fun k hk => (s4.block k (by have := t.size; omega) (by omega) (by omega)).trans (t.block k hk)⟩
    exact ⟨x, rfl, hx1, hx2, _, (fun hz => by rw [bodyL, if_pos hz]), fun k => stringS _ g1 o1 c1 _ (W2.drewN k) (s1.drewN k) (s2.drewN k) s3, hq⟩
  have hcv := fun W => run_conv text W
  generalize (⟨(dst.data.toList ++ compL false text.data.toList).toArray⟩ : ByteArray) = T at HE ⊢
  generalize takenB text.data.toList = b at HE ⊢
  clear hl1 hl2 h1 h2
  cases b
  all_goals
    go_enter Tryd.func19, Tryd.ntmps19
    go_wp2_with fail
    refine HN.out.mono ?_
    rintro e w1 ⟨c, rfl, a, b, d, f, g⟩
    have HE1 := Lib.hid (HE.out w1 c a b d f g)
    clear HE a b d f g HN
    go_wp2_with fail
    refine HE1.out.mono ?_
    rintro e w2 ⟨x, rfl, hx1, hx2, s, hs, hS, hb⟩
    have HS := Lib.hid hS
    have HB := Lib.hid hb
    clear hS HE1 hb
  · obtain ⟨q, rfl, hq⟩ := hx2 rfl
    have HO : Hid (∀ W, Below w2.heap.size w2 W → Calls Tryd.prog 35 #[.iface 94 (.pointer (some ⟨q, 0, none⟩))] W (fun e w3 => (∃ k : Int, e = .returned (.int .i64 k)) ∧ Below w2.heap.size w2 w3)) := Lib.hid fun W h => (offsetErr q W (hq.same (h.block q hq.lt))).mono fun e w3 ⟨a, b⟩ => ⟨a, h.trans (b.mono h.size)⟩
    clear hx1 hx2 hs hq
    go_wp2
    go_region_law (first | (go_simp; go_at_call 26; refine (HS.out 1).mono ?_; rintro e w3 ⟨rfl, k, rfl⟩) | (go_simp; go_at_call 35; refine (HO.out _ (below_drewN (Below.refl _ _) _)).mono ?_; rintro e w4 ⟨⟨j, rfl⟩, hb3⟩; have H3 := Lib.hid (HB.out.trans (hb3.mono HB.out.size)); clear hb3))
    all_goals go_wp2
    all_goals go_ret3
    all_goals exact ⟨s, j, rfl, (fun z => by cases z), H3.out⟩
  · obtain rfl := hx1 rfl
    obtain rfl := hs rfl
    have HO : Hid (∀ W, Below w2.heap.size w2 W → Calls Tryd.prog 35 #[.nilIface] W (fun e w3 => (∃ k : Int, e = .returned (.int .i64 k)) ∧ Below w2.heap.size w2 w3)) := Lib.hid fun W h => (offsetNil W).mono fun e w3 ⟨a, b⟩ => ⟨a, h.trans (b.mono h.size)⟩
    clear hx1 hx2 hs
    go_wp2
    go_region_law (first | (go_simp; go_at_call 26; refine (HS.out 1).mono ?_; rintro e w3 ⟨rfl, k, rfl⟩) | (go_simp; go_at_call 35; refine (HO.out _ (below_drewN (Below.refl _ _) _)).mono ?_; rintro e w4 ⟨⟨j, rfl⟩, hb3⟩; have H3 := Lib.hid (HB.out.trans (hb3.mono HB.out.size)); clear hb3))
    all_goals go_wp2
    all_goals go_ret3
    all_goals exact ⟨_, j, rfl, (fun _ => rfl), H3.out⟩
/-- What stands behind the call over the buffer. -/
def ChainIndent (b : Bool) (p : Nat) (T : ByteArray) (w : World) (e : Ending) (W2 : World) : Prop :=
  ∃ x, e = .returned x ∧ (b = true → x = .nilIface) ∧ (b = false → ∃ q, x = .iface 94 (.pointer (some ⟨q, 0, none⟩)) ∧ SynAt W2 q) ∧
    ∃ s, (b = true → s = T) ∧ (∀ k, Calls Tryd.prog 26 #[.pointer (some ⟨p, 0, none⟩)] (W2.drewN k) (AvPost (.string s) (W2.drewN k))) ∧ Below w.heap.size w W2
set_option maxHeartbeats 2000000 in
theorem oldIndent (dst text : ByteArray) (pre ind : ByteArray) (w : World) (h1 : dst.size ≤ 1000) (h2 : text.size ≤ 1000) (h3 : pre.size ≤ 16) (h4 : ind.size ≤ 16) :
    Calls Tryd.prog 20 #[.string dst, .string text, .string pre, .string ind] w (TightPost (takenB text.data.toList) ⟨(dst.data.toList ++ indL pre.data.toList ind.data.toList text.data.toList).toArray⟩ w) := by
  have HN := Lib.hid (newBufferS dst w h1)
  have hl1 := size_list dst
  have hl2 := size_list text
  have HE : Hid (∀ W c, BHead W (w.heap.size + 1) (.slice (some ⟨w.heap.size, 0, none⟩) dst.data.toList.length c) → Buf W 0 none (.slice (some ⟨w.heap.size, 0, none⟩) dst.data.toList.length c) dst.data.toList → dst.data.toList.length ≤ c → c ≤ maxLen → Below w.heap.size w W →
      Calls Tryd.prog 37 #[.pointer (some ⟨w.heap.size + 1, 0, none⟩), .slice (some ⟨W.heap.size, 0, none⟩) text.size (convCap W text), .string pre, .string ind] (convWorld W text) (ChainIndent (takenB text.data.toList) (w.heap.size + 1) ⟨(dst.data.toList ++ indL pre.data.toList ind.data.toList text.data.toList).toArray⟩ w)) := Lib.hid fun W c a b d f g => by
    have hbel := conv_below text W
    have hp := a.lt
    have hz := conv_size text W
    have a2 := a.below hbel
    have b2 : Buf (convWorld W text) 0 none (.slice (some ⟨w.heap.size, 0, none⟩) dst.data.toList.length c) dst.data.toList := b.below hbel (fun k e => by simp [Value.ownBlock] at e; omega)
    have := indentB (w.heap.size + 1) w.heap.size 0 c W.heap.size (convCap W text) dst.data.toList text.data.toList pre ind (convWorld W text) a2 b2 (by omega) d f (by omega) (conv_bytes text W) (by omega) (by rw [hl2]; exact convCap_ge _ _) (by omega) (by omega) (by omega) h3 h4
    rw [hl2] at this
    refine this.mono ?_
    rintro e W2 ⟨x, rfl, hx1, hx2, g1, o1, c1, s1, s2, s3, s4⟩
    have hq : Below w.heap.size w W2 := by
      have t := g.trans (hbel.mono g.size)
      exact ⟨s4.os.trans t.os, s4.tape.trans t.tape, s4.output.trans t.output, Nat.le_trans t.size s4.size, fun k hk => (s4.block k (by have := t.size; omega) (by omega) (by omega)).trans (t.block k hk)⟩
    exact ⟨x, rfl, hx1, hx2, _, (fun hz => by rw [bodyL, if_pos hz]), fun k => stringS _ g1 o1 c1 _ (W2.drewN k) (s1.drewN k) (s2.drewN k) s3, hq⟩
  have hcv := fun W => run_conv text W
  generalize (⟨(dst.data.toList ++ indL pre.data.toList ind.data.toList text.data.toList).toArray⟩ : ByteArray) = T at HE ⊢
  generalize takenB text.data.toList = b at HE ⊢
  clear hl1 hl2 h1 h2
  cases b
  all_goals
    go_enter Tryd.func20, Tryd.ntmps20
    go_wp2_with fail
    refine HN.out.mono ?_
    rintro e w1 ⟨c, rfl, a, b, d, f, g⟩
    have HE1 := Lib.hid (HE.out w1 c a b d f g)
    clear HE a b d f g HN
    go_wp2_with fail
    refine HE1.out.mono ?_
    rintro e w2 ⟨x, rfl, hx1, hx2, s, hs, hS, hb⟩
    have HS := Lib.hid hS
    have HB := Lib.hid hb
    clear hS HE1 hb
  · obtain ⟨q, rfl, hq⟩ := hx2 rfl
    have HO : Hid (∀ W, Below w2.heap.size w2 W → Calls Tryd.prog 35 #[.iface 94 (.pointer (some ⟨q, 0, none⟩))] W (fun e w3 => (∃ k : Int, e = .returned (.int .i64 k)) ∧ Below w2.heap.size w2 w3)) := Lib.hid fun W h => (offsetErr q W (hq.same (h.block q hq.lt))).mono fun e w3 ⟨a, b⟩ => ⟨a, h.trans (b.mono h.size)⟩
    clear hx1 hx2 hs hq
    go_wp2
    go_region_law (first | (go_simp; go_at_call 26; refine (HS.out 1).mono ?_; rintro e w3 ⟨rfl, k, rfl⟩) | (go_simp; go_at_call 35; refine (HO.out _ (below_drewN (Below.refl _ _) _)).mono ?_; rintro e w4 ⟨⟨j, rfl⟩, hb3⟩; have H3 := Lib.hid (HB.out.trans (hb3.mono HB.out.size)); clear hb3))
    all_goals go_wp2
    all_goals go_ret3
    all_goals exact ⟨s, j, rfl, (fun z => by cases z), H3.out⟩
  · obtain rfl := hx1 rfl
    obtain rfl := hs rfl
    have HO : Hid (∀ W, Below w2.heap.size w2 W → Calls Tryd.prog 35 #[.nilIface] W (fun e w3 => (∃ k : Int, e = .returned (.int .i64 k)) ∧ Below w2.heap.size w2 w3)) := Lib.hid fun W h => (offsetNil W).mono fun e w3 ⟨a, b⟩ => ⟨a, h.trans (b.mono h.size)⟩
    clear hx1 hx2 hs
    go_wp2
    go_region_law (first | (go_simp; go_at_call 26; refine (HS.out 1).mono ?_; rintro e w3 ⟨rfl, k, rfl⟩) | (go_simp; go_at_call 35; refine (HO.out _ (below_drewN (Below.refl _ _) _)).mono ?_; rintro e w4 ⟨⟨j, rfl⟩, hb3⟩; have H3 := Lib.hid (HB.out.trans (hb3.mono HB.out.size)); clear hb3))
    all_goals go_wp2
    all_goals go_ret3
    all_goals exact ⟨_, j, rfl, (fun _ => rfl), H3.out⟩
end Go.Proofs.YtklncgmfbflooaaDoor
