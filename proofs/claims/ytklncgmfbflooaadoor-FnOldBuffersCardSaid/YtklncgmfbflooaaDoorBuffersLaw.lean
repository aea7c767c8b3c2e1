/- The statement FnOldBuffers, walked: it returns true, and leaves all that lay below as it was. -/
import Derived.Test.YtklncgmfbflooaaDoorCmpBuf
import Derived.Test.YtklncgmfbflooaaDoorHtmlBuf
import Derived.Test.YtklncgmfbflooaaDoorTaken
import Derived.Test.YtklncgmfbflooaaDoorFits
import Derived.Test.YtklncgmfbflooaaDoorClose
namespace Go.Proofs.YtklncgmfbflooaaDoor
open Go.RowKit
set_option maxHeartbeats 2000000 in
theorem oldEscape (dst text : ByteArray) (w : World) (h1 : dst.size ≤ 1000) (h2 : text.size ≤ 1000) (h3 : 1 ≤ text.size) :
    Calls Tryd.prog 11 #[.string dst, .string text] w (SafePost (dst.data.toList ++ escF 0 text.data.toList) w) := by
  have HN := Lib.hid (newBufferS dst w h1)
  have hl1 := size_list dst
  have hl2 := size_list text
  have HE : Hid (∀ W c, BHead W (w.heap.size + 1) (.slice (some ⟨w.heap.size, 0, none⟩) dst.data.toList.length c) → Buf W 0 none (.slice (some ⟨w.heap.size, 0, none⟩) dst.data.toList.length c) dst.data.toList → dst.data.toList.length ≤ c → c ≤ maxLen → Below w.heap.size w W →
      Calls Tryd.prog 25 #[.pointer (some ⟨w.heap.size + 1, 0, none⟩), .slice (some ⟨W.heap.size, 0, none⟩) text.size (convCap W text)] (convWorld W text) (fun e W2 => e = .returned (.tuple #[]) ∧ Calls Tryd.prog 26 #[.pointer (some ⟨w.heap.size + 1, 0, none⟩)] W2 (SafePost (dst.data.toList ++ escF 0 text.data.toList) w))) := fun W c a b d f g => by
    have hbel := conv_below text W
    have hp := a.lt
    have hz := conv_size text W
    have a2 := a.below hbel
    have b2 : Buf (convWorld W text) 0 none (.slice (some ⟨w.heap.size, 0, none⟩) dst.data.toList.length c) dst.data.toList := b.below hbel (fun k e => by simp [Value.ownBlock] at e; omega)
    have := htmlEscapeS (w.heap.size + 1) w.heap.size 0 c W.heap.size (convCap W text) dst.data.toList text.data.toList (convWorld W text) a2 b2 (by omega) d f (by omega) (conv_bytes text W) (by omega) (by omega) (by rw [hl2]; exact convCap_ge _ _) (convCap_le _ _ (by unfold maxLen; omega)) (by omega) (by omega) (by omega)
    rw [hl2] at this
    refine this.mono ?_
    rintro e W2 ⟨g1, o1, c1, rfl, s1, s2, s3, s4⟩
    refine ⟨rfl, ?_⟩
    refine (stringS _ g1 o1 c1 _ W2 s1 s2 s3).mono ?_
    rintro e W3 ⟨rfl, k, rfl⟩
    have hq : Below w.heap.size w W2 := by
      have t := g.trans (hbel.mono g.size)
      exact ⟨s4.os.trans t.os, s4.tape.trans t.tape, s4.output.trans t.output, Nat.le_trans t.size s4.size, fun k hk => (s4.block k (by have := t.size; omega) (by omega) (by omega)).trans (t.block k hk)⟩
    refine ⟨rfl, ?_⟩
    cases k with
    | zero => exact hq
    | succ k => exact ⟨hq.os, hq.tape, hq.output, hq.size, hq.block⟩
  have hcv := fun W => run_conv text W
  clear hl1 hl2 h1 h2 h3
  go_enter Tryd.func11, Tryd.ntmps11
  go_wp2_with fail
  refine HN.out.mono ?_
  rintro e w1 ⟨c, rfl, a, b, d, f, g⟩
  have HE1 := Lib.hid (HE.out w1 c a b d f g)
  clear HE a b d f g HN
  go_wp2_with fail
  refine HE1.out.mono ?_
  rintro e w2 ⟨rfl, hS⟩
  have HS := Lib.hid hS
  clear hS HE1
  go_wp2_with fail
  refine HS.out.mono ?_
  rintro e w3 ⟨rfl, hb⟩
  clear HS
  go_wp2
  go_ret
  exact ⟨rfl, hb⟩
/-- Nothing is appended. -/
theorem append_none (a : Addr) (c : Nat) (b : Option Addr) (d : Nat) (W : World) :
    (Builtin.append_ #[56, 56] 56 #[.slice (some a) 0 c, .slice b 0 d]).run Tryd.prog W = .ok (.slice (some a) 0 c) W := by
  obtain ⟨i, hi, hz, hs, hby⟩ := info_parts infoU8
  have hu := Tryd.underlying56
  cases b <;> simp [Builtin.append_, run_underlying hu, Builtin.lenOf, Builtin.firstCells, sizeOf, typeInfo, hi, loadCells, loadCellsFrom, storeCells]
def ANPost (a : Addr) (c : Nat) (w : World) (e : Ending) (w' : World) : Prop := e = .returned (.slice (some a) 0 c) ∧ ∃ k, w' = w.drewN k
set_option maxHeartbeats 1000000 in
theorem appendHTML0 (a : Addr) (c t tc : Nat) (w : World) :
    Calls Tryd.prog 45 #[.slice (some a) 0 c, .slice (some ⟨t, 0, none⟩) 0 tc] w (ANPost a c w) := by
  have hap := append_none a c
  go_enter Tryd.func45, Tryd.ntmps45
  go_wp2
  refine wp_loop_rounds 1 ?_
  rw [rounds_succ]
  go_wp2
  all_goals go_ret
  all_goals exact ⟨rfl, 0, rfl⟩
def HE0Post (p g : Nat) (M : List UInt8) (w : World) (e : Ending) (w' : World) : Prop :=
  ∃ g1 o1 c1, e = .returned (.tuple #[]) ∧ BHead w' p (.slice (some ⟨g1, o1, none⟩) M.length c1) ∧ Buf w' 0 none (.slice (some ⟨g1, o1, none⟩) M.length c1) M ∧ M.length ≤ c1 ∧ Gq p g w w'
set_option maxHeartbeats 4000000 in
theorem htmlEscape0 (p g o c t tc : Nat) (L : List UInt8) (w : World) (h : BHead w p (.slice (some ⟨g, o, none⟩) L.length c)) (hB : Buf w 0 none (.slice (some ⟨g, o, none⟩) L.length c) L) (hpg : g ≠ p) (hlc : L.length ≤ c) (hc : c ≤ maxLen) (hL : L.length ≤ 1000000) :
    Calls Tryd.prog 25 #[.pointer (some ⟨p, 0, none⟩), .slice (some ⟨t, 0, none⟩) 0 tc] w (HEPost p g L w) := by
  have hG : Hid (Calls Tryd.prog 43 #[.pointer (some ⟨p, 0, none⟩), .int .i64 0] w (GrownPost p g o c 0 L w)) := Lib.hid (GrowS p g o c 0 L w h hB hpg hlc hc (by omega) (by omega))
  have HA : Hid (∀ g1 o1 c1 W, BHead W p (.slice (some ⟨g1, o1, none⟩) L.length c1) → Buf W 0 none (.slice (some ⟨g1, o1, none⟩) L.length c1) L → g1 ≠ p → Gp p w W → L.length + 0 ≤ c1 → c1 ≤ maxLen →
      ∃ v, Calls Tryd.prog 46 #[.pointer (some ⟨p, 0, none⟩)] W (AvPost v W) ∧ ∀ k, Calls Tryd.prog 45 #[v, .slice (some ⟨t, 0, none⟩) 0 tc] (W.drewN k) (fun e W3 => ∃ v2, e = .returned v2 ∧ Calls Tryd.prog 44 #[.pointer (some ⟨p, 0, none⟩), v2] W3 (fun e2 W4 => (∃ q, e2 = .returned (.tuple #[.int .i64 q, .nilIface])) ∧ HEPost p g L w (.returned (.tuple #[])) W4))) := Lib.hid fun g1 o1 c1 W a hb d G hl1 hcm => by
    have hfin : ∀ (a2 : Addr) (c2 : Nat) (k : Nat), Calls Tryd.prog 45 #[.slice (some a2) 0 c2, .slice (some ⟨t, 0, none⟩) 0 tc] (W.drewN k) (fun e W3 => ∃ v2, e = .returned v2 ∧ Calls Tryd.prog 44 #[.pointer (some ⟨p, 0, none⟩), v2] W3 (fun e2 W4 => (∃ q, e2 = .returned (.tuple #[.int .i64 q, .nilIface])) ∧ HEPost p g L w (.returned (.tuple #[])) W4)) := fun a2 c2 k => by
      refine (appendHTML0 a2 c2 t tc (W.drewN k)).mono ?_
      rintro e W3 ⟨rfl, j, rfl⟩
      have a3 := (a.drewN k).drewN j
      have b3 := (hb.drewN k).drewN j
      have G3 := (G.drewN k).drewN j
      generalize (W.drewN k).drewN j = W3 at a3 b3 G3 ⊢
      refine ⟨_, rfl, (write0 p g1 o1 L.length c1 (some a2) c2 W3 a3 hl1 hcm (by omega)).mono ?_⟩
      rintro e w' ⟨⟨m, rfl⟩, rfl⟩
      have G4 : Gp p W3 ((W3.setCell ⟨p, 2, none⟩ (.int .i8 0)).setCell ⟨p, 0, none⟩ (.slice (some ⟨g1, o1, none⟩) L.length c1)) := ((Gp.refl p W3).set _ _).set _ _
      exact ⟨⟨m, rfl⟩, g1, o1, c1, rfl, (a3.set2 0).set _, (b3.setP d _).setP d _, hl1, .of (G3.trans G4)⟩
    by_cases hcl : c1 = L.length
    · subst hcl
      exact ⟨_, avail0 p g1 o1 L.length W a, fun k => hfin _ _ k⟩
    · exact ⟨_, availS p g1 o1 L.length c1 W a (by omega), fun k => hfin _ _ k⟩
  clear h hB
  go_enter Tryd.func25, Tryd.ntmps25
  go_wp2_with fail
  refine hG.out.mono ?_
  rintro e w1 ⟨g1, o1, c1, rfl, hh, hb, hle, hne, hgp, hor⟩
  have hcm : c1 ≤ maxLen := by
    rcases hb with ⟨e, _⟩ | ⟨g', o', cap, cur, fz, e, _, _, _, hcm, _⟩
    · cases e
    · cases e; exact hcm
  obtain ⟨v, hav, hap⟩ := HA.out g1 o1 c1 w1 hh hb hne hgp hle hcm
  have HAV := Lib.hid hav
  have HAP := Lib.hid hap
  clear HA hh hb hle hne hgp hor hcm hG hav hap hlc hc hL hpg
  go_wp2_with fail
  refine HAV.out.mono ?_
  rintro e w2 ⟨rfl, k, rfl⟩
  go_wp2_with fail
  refine (HAP.out k).mono ?_
  rintro e w3 ⟨v2, rfl, hW⟩
  have HW := Lib.hid hW
  clear hW HAP HAV
  go_wp2_with fail
  refine HW.out.mono ?_
  rintro e w4 ⟨⟨q, rfl⟩, hfin⟩
  have HF := Lib.hid hfin
  clear hfin HW
  go_wp2
  go_end0
  exact HF.out
set_option maxHeartbeats 2000000 in
theorem oldEscape0 (dst text : ByteArray) (w : World) (h1 : dst.size ≤ 1000) (h2 : text.size ≤ 1000) (h3 : text = ⟨#[]⟩) :
    Calls Tryd.prog 11 #[.string dst, .string text] w (SafePost (dst.data.toList ++ escF 0 text.data.toList) w) := by
  have hes : escF 0 text.data.toList = [] := by rw [h3]; rfl
  have hz0 : text.size = 0 := by rw [h3]; rfl
  rw [hes, List.append_nil]
  have HN := Lib.hid (newBufferS dst w h1)
  have hl1 := size_list dst
  have hl2 := size_list text
  have HE : Hid (∀ W c, BHead W (w.heap.size + 1) (.slice (some ⟨w.heap.size, 0, none⟩) dst.data.toList.length c) → Buf W 0 none (.slice (some ⟨w.heap.size, 0, none⟩) dst.data.toList.length c) dst.data.toList → dst.data.toList.length ≤ c → c ≤ maxLen → Below w.heap.size w W →
      Calls Tryd.prog 25 #[.pointer (some ⟨w.heap.size + 1, 0, none⟩), .slice (some ⟨W.heap.size, 0, none⟩) text.size (convCap W text)] (convWorld W text) (fun e W2 => e = .returned (.tuple #[]) ∧ Calls Tryd.prog 26 #[.pointer (some ⟨w.heap.size + 1, 0, none⟩)] W2 (SafePost dst.data.toList w))) := fun W c a b d f g => by
    have hbel := conv_below text W
    have hp := a.lt
    have hz := conv_size text W
    have a2 := a.below hbel
    have b2 : Buf (convWorld W text) 0 none (.slice (some ⟨w.heap.size, 0, none⟩) dst.data.toList.length c) dst.data.toList := b.below hbel (fun k e => by simp [Value.ownBlock] at e; omega)
    have := htmlEscape0 (w.heap.size + 1) w.heap.size 0 c W.heap.size (convCap W text) dst.data.toList (convWorld W text) a2 b2 (by omega) d f (by omega)
    rw [hz0]
    refine this.mono ?_
    rintro e W2 ⟨g1, o1, c1, rfl, s1, s2, s3, s4⟩
    refine ⟨rfl, ?_⟩
    refine (stringS _ g1 o1 c1 _ W2 s1 s2 s3).mono ?_
    rintro e W3 ⟨rfl, k, rfl⟩
    have hq : Below w.heap.size w W2 := by
      have t := g.trans (hbel.mono g.size)
      exact ⟨s4.os.trans t.os, s4.tape.trans t.tape, s4.output.trans t.output, Nat.le_trans t.size s4.size, fun k hk => (s4.block k (by have := t.size; omega) (by omega) (by omega)).trans (t.block k hk)⟩
    refine ⟨rfl, ?_⟩
    cases k with
    | zero => exact hq
    | succ k => exact ⟨hq.os, hq.tape, hq.output, hq.size, hq.block⟩
  have hcv := fun W => run_conv text W
  clear hl1 hl2 h1 h2 h3 hes hz0
  go_enter Tryd.func11, Tryd.ntmps11
  go_wp2_with fail
  refine HN.out.mono ?_
  rintro e w1 ⟨c, rfl, a, b, d, f, g⟩
  have HE1 := Lib.hid (HE.out w1 c a b d f g)
  clear HE a b d f g HN
  go_wp2_with fail
  refine HE1.out.mono ?_
  rintro e w2 ⟨rfl, hS⟩
  have HS := Lib.hid hS
  clear hS HE1
  go_wp2_with fail
  refine HS.out.mono ?_
  rintro e w3 ⟨rfl, hb⟩
  clear HS
  go_wp2
  go_ret
  exact ⟨rfl, hb⟩
theorem oldEscapeAll (dst text : ByteArray) (w : World) (h1 : dst.size ≤ 1000) (h2 : text.size ≤ 1000) :
    Calls Tryd.prog 11 #[.string dst, .string text] w (SafePost (dst.data.toList ++ escF 0 text.data.toList) w) := by
  by_cases h : 1 ≤ text.size
  · exact oldEscape dst text w h1 h2 h
  · refine oldEscape0 dst text w h1 h2 ?_
    have h0 : text.data.size = 0 := by show text.size = 0; omega
    exact ByteArray.ext (Array.eq_empty_of_size_eq_zero h0)
theorem escF_ge : ∀ (m : List UInt8) (s : Nat), m.length ≤ (escF s m).length + s
  | [], s => by simp
  | c :: r, s + 1 => by rw [escF]; have := escF_ge r s; simp; omega
  | c :: r, 0 => by
    have h0 := escF_ge r 0
    have h2 := escF_ge r 2
    rw [escF]
    repeat' split
    all_goals simp
    all_goals omega
set_option maxRecDepth 100000 in
set_option maxHeartbeats 4000000 in
theorem law_walk (dst text pre ind : ByteArray) (w : World) (h0 : dst.size ≤ 2147483647) (h1 : text.size ≤ 2147483647) (h2 : pre.size ≤ 2147483647) (h3 : ind.size ≤ 2147483647) :
    Calls Tryd.prog 7 #[.string dst, .string text, .string pre, .string ind] w fun e w' => e = .returned (.bool true) ∧ Below w.heap.size w w' := by
  have HG := Lib.hid (fun W => fit2 dst text W h0 h1)
  have HO := Lib.hid (fun W : World => oldRules W)
  have HT : Hid (∀ W : World, Calls Tryd.prog 8 #[.string text, .agg #[.bool true, .bool true]] W fun e w' => e = .returned (.tuple #[.bool (takenB text.data.toList), .bool true]) ∧ Below W.heap.size W w') := Lib.hid fun W => takenS text W h1
  have HK : Hid (okFit dst = true → okFit text = true → ∃ T : ByteArray, (∀ W : World, Calls Tryd.prog 19 #[.string dst, .string text] W (TightPost (takenB text.data.toList) T W)) ∧ ∀ W : World, Calls Tryd.prog 21 #[.string dst, .string text, .bool false] W (TightPost (takenB text.data.toList) T W)) := Lib.hid fun g h =>
    ⟨_, fun W => oldCompact dst text W (by unfold okFit at g; simpa using g) (by unfold okFit at h; simpa using h), fun W => oldTight dst text false W (by unfold okFit at g; simpa using g) (by unfold okFit at h; simpa using h)⟩
  have HI : Hid (okFit dst = true → okFit text = true → pre.size ≤ 16 → ind.size ≤ 16 → ∃ T : ByteArray, (∀ W : World, Calls Tryd.prog 20 #[.string dst, .string text, .string pre, .string ind] W (TightPost (takenB text.data.toList) T W)) ∧ ∀ W : World, Calls Tryd.prog 22 #[.string dst, .string text, .string pre, .string ind] W (TightPost (takenB text.data.toList) T W)) := Lib.hid fun g h hp hi =>
    ⟨_, fun W => oldIndent dst text pre ind W (by unfold okFit at g; simpa using g) (by unfold okFit at h; simpa using h) hp hi, fun W => oldWide dst text pre ind W (by unfold okFit at g; simpa using g) (by unfold okFit at h; simpa using h) hp hi⟩
  have HE : Hid (okFit dst = true → okFit text = true → ∃ T : ByteArray, dst.size + text.size ≤ T.size ∧ T.size ≤ 100000 ∧ (∀ W : World, Calls Tryd.prog 15 #[.string dst, .string text] W (fun e w' => e = .returned (.string T) ∧ Below W.heap.size W w')) ∧ ∀ W : World, Calls Tryd.prog 11 #[.string dst, .string text] W (fun e w' => e = .returned (.string T) ∧ Below W.heap.size W w')) := Lib.hid fun g h => by
    have hg : dst.size ≤ 1000 := by unfold okFit at g; simpa using g
    have hh : text.size ≤ 1000 := by unfold okFit at h; simpa using h
    have hl := escF_ge text.data.toList 0
    have hl2 := escF_length text.data.toList 0
    rw [size_list] at hl hl2
    have hs : (⟨(dst.data.toList ++ escF 0 text.data.toList).toArray⟩ : ByteArray).size = dst.size + (escF 0 text.data.toList).length := by
      show ((dst.data.toList ++ escF 0 text.data.toList).toArray).size = _
      rw [List.size_toArray, List.length_append, size_list]
    exact ⟨_, by rw [hs]; omega, by rw [hs]; omega, fun W => oldSafe dst text W hg (by omega), fun W => oldEscapeAll dst text W hg hh⟩
  have hd0 : ¬ ((2147483647 : Int) < (dst.size : Int)) := by omega
  have hd1 : ¬ ((2147483647 : Int) < (text.size : Int)) := by omega
  have hd2 : ¬ ((2147483647 : Int) < (pre.size : Int)) := by omega
  have hd3 : ¬ ((2147483647 : Int) < (ind.size : Int)) := by omega
  generalize takenB text.data.toList = t at HT HK HI
  generalize okFit dst = g1 at HG HK HI HE
  generalize okFit text = g2 at HG HK HI HE
  obtain ⟨g, hg⟩ : ∃ g, g = (g1 && g2) := ⟨_, rfl⟩
  rw [← hg] at HG
  cases g
  · clear HK HI HE HT HO hg
    go_enter Tryd.func7, Tryd.ntmps7
    go_wp2_with fail
    refine (HG.out _).mono ?_
    rintro e w1 ⟨rfl, rfl⟩
    go_wp2
    go_ret
    exact ⟨rfl, (Below.refl _ _).alloc (Nat.le_refl _) _⟩
  · obtain ⟨e1, e2⟩ : g1 = true ∧ g2 = true := by simpa using hg.symm
    obtain ⟨T1, hk1, hk2⟩ := HK.out e1 e2
    obtain ⟨S, hS1, hS2, hf1, hf2⟩ := HE.out e1 e2
    by_cases hp : pre.size ≤ 16
    · have hp1 : ¬ ((16 : Int) < (pre.size : Int)) := by omega
      by_cases hi : ind.size ≤ 16
      · have hi1 : ¬ ((16 : Int) < (ind.size : Int)) := by omega
        obtain ⟨T2, hi2, hw2⟩ := HI.out e1 e2 hp hi
        have HK2 := Lib.hid hk1
        have HS2 := Lib.hid hk2
        have HI2 := Lib.hid hi2
        have HW2 := Lib.hid hw2
        have HF2 := Lib.hid hf1
        have HE2 := Lib.hid hf2
        have hself : (S.toList == S.toList) = true := beq_self_eq_true _
        have hsz : ((dst.size : Int) + (text.size : Int)) ≤ (S.size : Int) := by omega
        clear hk1 hk2 hi2 hw2 hf1 hf2 e1 e2 hg hp hi h2 h3 HK HI HE
        cases t
        · have hszd : decide (((dst.size : Int) + (text.size : Int)) ≤ (S.size : Int)) = true := by simpa using hsz
          go_enter Tryd.func7, Tryd.ntmps7
          go_wp2_with fail
          refine (HG.out _).mono ?_
          rintro e w1 ⟨rfl, rfl⟩
          have B1 : Hid (Below w.heap.size w (w.alloc (Obj.cells #[.string dst, .string text] 9))) := Lib.hid ((Below.refl _ _).alloc (Nat.le_refl _) _)
          go_wp2_with fail
          refine (HK2.out _).mono ?_
          rintro e w2 ⟨s2, k2, rfl, q2, hb2⟩
          clear q2
          have B2 := Lib.hid (B1.out.trans (hb2.mono B1.out.size))
          clear hb2 B1
          go_wp2_with fail
          refine (HS2.out _).mono ?_
          rintro e w3 ⟨s3, k3, rfl, q3, hb3⟩
          clear q3
          have B3 := Lib.hid (B2.out.trans (hb3.mono B2.out.size))
          clear hb3 B2
          go_wp2_with fail
          refine (HI2.out _).mono ?_
          rintro e w4 ⟨s4, k4, rfl, q4, hb4⟩
          clear q4
          have B4 := Lib.hid (B3.out.trans (hb4.mono B3.out.size))
          clear hb4 B3
          go_wp2_with fail
          refine (HW2.out _).mono ?_
          rintro e w5 ⟨s5, k5, rfl, q5, hb5⟩
          clear q5
          have B5 := Lib.hid (B4.out.trans (hb5.mono B4.out.size))
          clear hb5 B4
          go_wp2_with fail
          refine (HO.out _).mono ?_
          rintro e w6 ⟨rfl, hb6⟩
          have B6 := Lib.hid (B5.out.trans (hb6.mono B5.out.size))
          clear hb6 B5
          go_wp2_with fail
          refine (HT.out _).mono ?_
          rintro e w7 ⟨rfl, hb7⟩
          have B7 := Lib.hid (B6.out.trans (hb7.mono B6.out.size))
          clear hb7 B6
          go_wp2_with fail
          refine (HF2.out _).mono ?_
          rintro e w8 ⟨rfl, hb8⟩
          have B8 := Lib.hid (B7.out.trans (hb8.mono B7.out.size))
          clear hb8 B7
          go_wp2_with fail
          refine (HE2.out _).mono ?_
          rintro e w9 ⟨rfl, hb9⟩
          have B9 := Lib.hid (B8.out.trans (hb9.mono B8.out.size))
          clear hb9 B8
          go_wp2
          go_ret
          exact ⟨rfl, B9.out⟩
        · have hself1 : (T1.toList == T1.toList) = true := beq_self_eq_true _
          have hself2 : (T2.toList == T2.toList) = true := beq_self_eq_true _
          go_enter Tryd.func7, Tryd.ntmps7
          go_wp2_with fail
          refine (HG.out _).mono ?_
          rintro e w1 ⟨rfl, rfl⟩
          have B1 : Hid (Below w.heap.size w (w.alloc (Obj.cells #[.string dst, .string text] 9))) := Lib.hid ((Below.refl _ _).alloc (Nat.le_refl _) _)
          go_wp2_with fail
          refine (HK2.out _).mono ?_
          rintro e w2 ⟨s2, k2, rfl, q2, hb2⟩
          obtain rfl := q2 rfl
          clear q2
          have B2 := Lib.hid (B1.out.trans (hb2.mono B1.out.size))
          clear hb2 B1
          go_wp2_with fail
          refine (HS2.out _).mono ?_
          rintro e w3 ⟨s3, k3, rfl, q3, hb3⟩
          obtain rfl := q3 rfl
          clear q3
          have B3 := Lib.hid (B2.out.trans (hb3.mono B2.out.size))
          clear hb3 B2
          go_wp2_with fail
          refine (HI2.out _).mono ?_
          rintro e w4 ⟨s4, k4, rfl, q4, hb4⟩
          obtain rfl := q4 rfl
          clear q4
          have B4 := Lib.hid (B3.out.trans (hb4.mono B3.out.size))
          clear hb4 B3
          go_wp2_with fail
          refine (HW2.out _).mono ?_
          rintro e w5 ⟨s5, k5, rfl, q5, hb5⟩
          obtain rfl := q5 rfl
          clear q5
          have B5 := Lib.hid (B4.out.trans (hb5.mono B4.out.size))
          clear hb5 B4
          go_wp2_with fail
          refine (HO.out _).mono ?_
          rintro e w6 ⟨rfl, hb6⟩
          have B6 := Lib.hid (B5.out.trans (hb6.mono B5.out.size))
          clear hb6 B5
          go_wp2_with fail
          refine (HT.out _).mono ?_
          rintro e w7 ⟨rfl, hb7⟩
          have B7 := Lib.hid (B6.out.trans (hb7.mono B6.out.size))
          clear hb7 B6
          go_wp2_with fail
          refine (HF2.out _).mono ?_
          rintro e w8 ⟨rfl, hb8⟩
          have B8 := Lib.hid (B7.out.trans (hb8.mono B7.out.size))
          clear hb8 B7
          go_wp2_with fail
          refine (HE2.out _).mono ?_
          rintro e w9 ⟨rfl, hb9⟩
          have B9 := Lib.hid (B8.out.trans (hb9.mono B8.out.size))
          clear hb9 B8
          go_wp2
          go_ret
          exact ⟨rfl, B9.out⟩
      · have hi1 : ((16 : Int) < (ind.size : Int)) := by omega
        clear HK HI HE HT HO hk1 hk2 hf1 hf2 hg e1 e2
        go_enter Tryd.func7, Tryd.ntmps7
        go_wp2_with fail
        refine (HG.out _).mono ?_
        rintro e w1 ⟨rfl, rfl⟩
        go_wp2
        go_ret
        exact ⟨rfl, (Below.refl _ _).alloc (Nat.le_refl _) _⟩
    · have hp1 : ((16 : Int) < (pre.size : Int)) := by omega
      clear HK HI HE HT HO hk1 hk2 hf1 hf2 hg e1 e2
      go_enter Tryd.func7, Tryd.ntmps7
      go_wp2_with fail
      refine (HG.out _).mono ?_
      rintro e w1 ⟨rfl, rfl⟩
      go_wp2
      go_ret
      exact ⟨rfl, (Below.refl _ _).alloc (Nat.le_refl _) _⟩
theorem fnOldBuffers_any (dst text pre ind : ByteArray) (w : World) (_ : dst.size ≤ maxLen) (_ : text.size ≤ maxLen) (_ : pre.size ≤ maxLen) (_ : ind.size ≤ maxLen) :
    Calls Tryd.prog 7 #[.string dst, .string text, .string pre, .string ind] w fun e w' => e = .returned (.bool true) ∧ Below w.heap.size w w' := by
  by_cases h0 : dst.size ≤ 2147483647
  · by_cases h1 : text.size ≤ 2147483647
    · by_cases h2 : pre.size ≤ 2147483647
      · by_cases h3 : ind.size ≤ 2147483647
        · exact law_walk dst text pre ind w h0 h1 h2 h3
        · have h' : 2147483647 < ind.size := by omega
          go_enter Tryd.func7, Tryd.ntmps7
          go_wp2
          go_ret
          exact ⟨rfl, Below.refl _ _⟩
      · have h' : 2147483647 < pre.size := by omega
        go_enter Tryd.func7, Tryd.ntmps7
        go_wp2
        go_ret
        exact ⟨rfl, Below.refl _ _⟩
    · have h' : 2147483647 < text.size := by omega
      go_enter Tryd.func7, Tryd.ntmps7
      go_wp2
      go_ret
      exact ⟨rfl, Below.refl _ _⟩
  · have h' : 2147483647 < dst.size := by omega
    go_enter Tryd.func7, Tryd.ntmps7
    go_wp2
    go_ret
    exact ⟨rfl, Below.refl _ _⟩
end Go.Proofs.YtklncgmfbflooaaDoor
