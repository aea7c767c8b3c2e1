/- impl.OldTight, impl.OldWide, impl.OldCheck (encoding/json's compacting and indenting over plain bytes), walked. -/
import Derived.Test.YtklncgmfbflooaaDoorIndent
import Derived.Test.YtklncgmfbflooaaDoorOffset
import Derived.Test.YtklncgmfbflooaaDoorOldSafe
import Derived.Deep.RegionLaw
namespace Go.Proofs.YtklncgmfbflooaaDoor
open Go.RowKit
theorem zzCompact (base : Nat) (G : Option (Nat × Nat)) (v : Value) (l0 : List UInt8) (g cap : Nat) (l : List UInt8) (esc : Bool) (w : World) (hB : Buf w base G v l0) (hm : BytesAt w g 0 l) (hcap : l.length ≤ cap) (hl : l.length < 10000) (hsz : l0.length ≤ 1000000)
    (hbase : base ≤ w.heap.size) (hG : ∀ g o, G = some (g, o) → g < base) (hg : g < base) (hgG : ∀ o, G ≠ some (g, o)) :
    Calls Tryd.prog 38 #[v, .slice (some ⟨g, 0, none⟩) l.length cap, .bool esc] w (CmpPost (takenB l) base G l0 (l0 ++ compL esc l) w) := by
  have hc := Lib.hid (appendCompactS base G v l0 g cap l esc w hB hm hcap hl hsz hbase hG hg hgG)
  generalize l0 ++ compL esc l = L at hc ⊢
  generalize takenB l = b at hc ⊢
  generalize l.length = n at hc ⊢
  clear hB hm hcap hl hsz hbase hG hg hgG
  go_enter Tryd.func38, Tryd.ntmps38
  go_wp2_with fail
  refine hc.out.mono ?_
  rintro e w' ⟨v', x, rfl, h⟩
  have H := Lib.hid h
  clear h hc
  go_wp2
  go_ret2
  exact ⟨v', x, rfl, H.out⟩
theorem zzIndent (base : Nat) (G : Option (Nat × Nat)) (v : Value) (l0 : List UInt8) (g cap : Nat) (l : List UInt8) (pre ind : ByteArray) (w : World) (hB : Buf w base G v l0) (hm : BytesAt w g 0 l) (hcap : l.length ≤ cap) (hl : l.length < 10000) (hsz : l0.length ≤ 1000000) (hpre : pre.size ≤ 16) (hind : ind.size ≤ 16)
    (hbase : base ≤ w.heap.size) (hG : ∀ g o, G = some (g, o) → g < base) (hg : g < base) (hgG : ∀ o, G ≠ some (g, o)) :
    Calls Tryd.prog 39 #[v, .slice (some ⟨g, 0, none⟩) l.length cap, .string pre, .string ind] w (CmpPost (takenB l) base G l0 (l0 ++ indL pre.data.toList ind.data.toList l) w) := by
  have hc := Lib.hid (appendIndentS base G v l0 g cap l pre ind w hB hm hcap hl hsz hpre hind hbase hG hg hgG)
  generalize l0 ++ indL pre.data.toList ind.data.toList l = L at hc ⊢
  generalize takenB l = b at hc ⊢
  generalize l.length = n at hc ⊢
  clear hB hm hcap hl hsz hbase hG hg hgG hpre hind
  go_enter Tryd.func39, Tryd.ntmps39
  go_wp2_with fail
  refine hc.out.mono ?_
  rintro e w' ⟨v', x, rfl, h⟩
  have H := Lib.hid h
  clear h hc
  go_wp2
  go_ret2
  exact ⟨v', x, rfl, H.out⟩
/-- Bytes that can be read, back into a text. -/
theorem BytV.text {w : World} {v : Value} {l : List UInt8} (h : BytV w v l) : (convert 56 9 v).run Tryd.prog w = .ok (.string ⟨l.toArray⟩) w := by
  rcases h with ⟨rfl, rfl⟩ | ⟨g, o, cap, rfl, _, hb, _⟩
  · exact run_convert_bytes_nil _ _ 5 Tryd.underlying56 Tryd.underlying5 0 0 9 Tryd.underlying9
  · rw [← strOfNums_list l]
    refine run_convert_bytes_arg _ _ 5 Tryd.underlying56 Tryd.underlying5 g o l.length cap _ (by simp) (fun i hi => ?_) 9 Tryd.underlying9
    rw [hb i hi]
    simp [atL, List.getD_eq_getElem?_getD, hi]
/-- What such a function answers: where the text is a value, just these bytes. -/
def TightPost (b : Bool) (S : ByteArray) (w : World) (e : Ending) (w' : World) : Prop :=
  ∃ (s : ByteArray) (k : Int), e = .returned (.tuple #[.string s, .bool b, .int .i64 k]) ∧ (b = true → s = S) ∧ Below w.heap.size w w'
/-- The error's offset, whichever it is. -/
theorem offsetAny (b : Bool) (x : Value) (w : World) (h1 : b = true → x = .nilIface) (h2 : b = false → ∃ p, x = .iface 94 (.pointer (some ⟨p, 0, none⟩)) ∧ SynAt w p) :
    Calls Tryd.prog 35 #[x] w (OffPost w) := by
  cases b
  · obtain ⟨p, rfl, hp⟩ := h2 rfl
    exact offsetErr p w hp
  · obtain rfl := h1 rfl
    exact offsetNil w
theorem BytV.belowW {w w' : World} {v : Value} {l : List UInt8} (h : BytV w v l) (b : Below w.heap.size w w') : BytV w' v l := by
  rcases h with h | ⟨g, o, cap, rfl, hc, hb, hg⟩
  · exact .inl h
  · exact .inr ⟨g, o, cap, rfl, hc, fun j hj => (World.cell?_of_block (a := ⟨g, o + j, none⟩) (b.block g hg)).trans (hb j hj), Nat.lt_of_lt_of_le hg b.size⟩
theorem below_drew1 (w : World) : Below w.heap.size w w.drew := ⟨rfl, rfl, rfl, Nat.le_refl _, fun _ _ => rfl⟩
theorem tight_fin {w W w' w2 : World} (hb : Below w.heap.size w W) (hs : W.heap.size = w.heap.size + 2) (hf : Fr (w.heap.size + 2) (some (w.heap.size, 0)) W w') (h2 : Below w'.heap.size w' w2) : Below w.heap.size w w2 := by
  have h3 := hf.size
  have h4 : Below w.heap.size w w' := ⟨hf.os.trans hb.os, hf.tape.trans hb.tape, hf.output.trans hb.output, by omega, fun k hk => (hf.block k (by omega) fun o e => by injection e with e; injection e with e1 e2; omega).trans (hb.block k hk)⟩
  exact h4.trans (h2.mono (by omega))
theorem tight_ready (w : World) (dst text : ByteArray) (esc : Bool) (h1 : dst.size ≤ 1000) (h2 : text.size ≤ 1000) :
    Calls Tryd.prog 38 #[.slice (some ⟨w.heap.size, 0, none⟩) dst.size (convCap w dst), .slice (some ⟨(convWorld w dst).heap.size, 0, none⟩) text.size (convCap (convWorld w dst) text), .bool esc] (twoW w dst text)
      (CmpPost (takenB text.data.toList) (w.heap.size + 2) (some (w.heap.size, 0)) dst.data.toList (dst.data.toList ++ compL esc text.data.toList) (twoW w dst text)) := by
  have hb := conv_buf dst w (by unfold maxLen; omega)
  have hb2 : Buf (twoW w dst text) w.heap.size none (.slice (some ⟨w.heap.size, 0, none⟩) dst.size (convCap w dst)) dst.data.toList := hb.below (conv_below text (convWorld w dst)) (fun g e => by simp [Value.ownBlock] at e; rw [conv_size]; omega)
  have hb3 := hb2.rebase
  rw [twoW_size] at hb3
  have := zzCompact (w.heap.size + 2) (some (w.heap.size, 0)) _ dst.data.toList (convWorld w dst).heap.size (convCap (convWorld w dst) text) text.data.toList esc (twoW w dst text) hb3 (conv_bytes text (convWorld w dst)) (by rw [size_list]; exact convCap_ge _ _)
    (by rw [size_list]; omega) (by rw [size_list]; omega) (by rw [twoW_size]; omega) (by intro g o e; injection e with e; injection e with e1 e2; omega) (by rw [conv_size]; omega) (by intro o e; rw [conv_size] at e; injection e with e; injection e with e1 e2; omega)
  rw [size_list] at this
  exact this
theorem wide_ready (w : World) (dst text : ByteArray) (pre ind : ByteArray) (h1 : dst.size ≤ 1000) (h2 : text.size ≤ 1000) (h3 : pre.size ≤ 16) (h4 : ind.size ≤ 16) :
    Calls Tryd.prog 39 #[.slice (some ⟨w.heap.size, 0, none⟩) dst.size (convCap w dst), .slice (some ⟨(convWorld w dst).heap.size, 0, none⟩) text.size (convCap (convWorld w dst) text), .string pre, .string ind] (twoW w dst text)
      (CmpPost (takenB text.data.toList) (w.heap.size + 2) (some (w.heap.size, 0)) dst.data.toList (dst.data.toList ++ indL pre.data.toList ind.data.toList text.data.toList) (twoW w dst text)) := by
  have hb := conv_buf dst w (by unfold maxLen; omega)
  have hb2 : Buf (twoW w dst text) w.heap.size none (.slice (some ⟨w.heap.size, 0, none⟩) dst.size (convCap w dst)) dst.data.toList := hb.below (conv_below text (convWorld w dst)) (fun g e => by simp [Value.ownBlock] at e; rw [conv_size]; omega)
  have hb3 := hb2.rebase
  rw [twoW_size] at hb3
  have := zzIndent (w.heap.size + 2) (some (w.heap.size, 0)) _ dst.data.toList (convWorld w dst).heap.size (convCap (convWorld w dst) text) text.data.toList pre ind (twoW w dst text) hb3 (conv_bytes text (convWorld w dst)) (by rw [size_list]; exact convCap_ge _ _)
    (by rw [size_list]; omega) (by rw [size_list]; omega) h3 h4 (by rw [twoW_size]; omega) (by intro g o e; injection e with e; injection e with e1 e2; omega) (by rw [conv_size]; omega) (by intro o e; rw [conv_size] at e; injection e with e; injection e with e1 e2; omega)
  rw [size_list] at this
  exact this
set_option maxHeartbeats 1000000 in
theorem oldTight (dst text : ByteArray) (esc : Bool) (w : World) (h1 : dst.size ≤ 1000) (h2 : text.size ≤ 1000) :
    Calls Tryd.prog 21 #[.string dst, .string text, .bool esc] w (TightPost (takenB text.data.toList) ⟨(dst.data.toList ++ compL esc text.data.toList).toArray⟩ w) := by
  have hc := Lib.hid (tight_ready w dst text esc h1 h2)
  have hcv := run_conv dst w
  have hcv2 := run_conv text (convWorld w dst)
  have ht : convWorld (convWorld w dst) text = twoW w dst text := rfl
  rw [ht] at hcv2
  have hbel := twoW_below w dst text
  have hts := twoW_size w dst text
  generalize twoW w dst text = W at hc hcv2 hbel hts
  generalize convWorld w dst = W1 at hc hcv hcv2
  generalize dst.data.toList ++ compL esc text.data.toList = L at hc ⊢
  generalize takenB text.data.toList = b at hc ⊢
  generalize convCap W1 text = c2 at hc hcv2
  generalize convCap w dst = c1 at hc hcv
  have HB := Lib.hid hbel
  have HS := Lib.hid hts
  clear ht h1 h2 hbel hts
  cases b
  all_goals
    go_enter Tryd.func21, Tryd.ntmps21
    go_wp2_with fail
    refine hc.out.mono ?_
    rintro e w' ⟨v', x, rfl, ha, hb, hf⟩
    clear hc hcv hcv2
    have HF : Hid (∀ w2, Below w'.heap.size w' w2 → Below w.heap.size w w2) := Lib.hid fun w2 h => tight_fin HB.out HS.out hf h
    clear hf HB HS
  · obtain ⟨p, rfl, hp, hby⟩ := hb rfl
    have HTX : Hid (∀ W, Below w'.heap.size w' W → (convert 56 9 v').run Tryd.prog W = .ok (.string ⟨dst.data.toList.toArray⟩) W) := Lib.hid fun W h => (hby.belowW h).text
    have t0 := HTX.out w'.drew (below_drew1 w')
    have HO : Hid (∀ W, Below w'.heap.size w' W → Calls Tryd.prog 35 #[.iface 94 (.pointer (some ⟨p, 0, none⟩))] W (fun e w2 => (∃ k : Int, e = .returned (.int .i64 k)) ∧ Below w'.heap.size w' w2)) := Lib.hid fun W h => (offsetErr p W (hp.same (h.block p hp.lt))).mono fun e w2 ⟨a, b⟩ => ⟨a, h.trans (b.mono h.size)⟩
    clear ha hb hp hby
    go_wp2
    go_region_law (go_simp; go_at_call 35; refine (HO.out _ (below_drew1 w')).mono ?_; rintro e w2 ⟨⟨k, rfl⟩, hb2⟩; have t2 := HTX.out w2 hb2; have H2 := Lib.hid (HF.out w2 hb2); clear hb2)
    all_goals go_wp2
    all_goals go_ret3
    all_goals exact ⟨_, k, rfl, (fun z => by cases z), H2.out⟩
  · obtain ⟨rfl, hB⟩ := ha rfl
    have HTX : Hid (∀ W, Below w'.heap.size w' W → (convert 56 9 v').run Tryd.prog W = .ok (.string ⟨L.toArray⟩) W) := Lib.hid fun W h => (hB.below h hB.block).text
    have t0 := HTX.out w'.drew (below_drew1 w')
    have HO : Hid (∀ W, Below w'.heap.size w' W → Calls Tryd.prog 35 #[.nilIface] W (fun e w2 => (∃ k : Int, e = .returned (.int .i64 k)) ∧ Below w'.heap.size w' w2)) := Lib.hid fun W h => (offsetNil W).mono fun e w2 ⟨a, b⟩ => ⟨a, h.trans (b.mono h.size)⟩
    clear ha hb hB
    go_wp2
    go_region_law (go_simp; go_at_call 35; refine (HO.out _ (below_drew1 w')).mono ?_; rintro e w2 ⟨⟨k, rfl⟩, hb2⟩; have t2 := HTX.out w2 hb2; have H2 := Lib.hid (HF.out w2 hb2); clear hb2)
    all_goals go_wp2
    all_goals go_ret3
    all_goals exact ⟨_, k, rfl, (fun _ => rfl), H2.out⟩
theorem oldWide (dst text : ByteArray) (pre ind : ByteArray) (w : World) (h1 : dst.size ≤ 1000) (h2 : text.size ≤ 1000) (h3 : pre.size ≤ 16) (h4 : ind.size ≤ 16) :
    Calls Tryd.prog 22 #[.string dst, .string text, .string pre, .string ind] w (TightPost (takenB text.data.toList) ⟨(dst.data.toList ++ indL pre.data.toList ind.data.toList text.data.toList).toArray⟩ w) := by
  have hc := Lib.hid (wide_ready w dst text pre ind h1 h2 h3 h4)
  have hcv := run_conv dst w
  have hcv2 := run_conv text (convWorld w dst)
  have ht : convWorld (convWorld w dst) text = twoW w dst text := rfl
  rw [ht] at hcv2
  have hbel := twoW_below w dst text
  have hts := twoW_size w dst text
  generalize twoW w dst text = W at hc hcv2 hbel hts
  generalize convWorld w dst = W1 at hc hcv hcv2
  generalize dst.data.toList ++ indL pre.data.toList ind.data.toList text.data.toList = L at hc ⊢
  generalize takenB text.data.toList = b at hc ⊢
  generalize convCap W1 text = c2 at hc hcv2
  generalize convCap w dst = c1 at hc hcv
  have HB := Lib.hid hbel
  have HS := Lib.hid hts
  clear ht h1 h2 hbel hts
  cases b
  all_goals
    go_enter Tryd.func22, Tryd.ntmps22
    go_wp2_with fail
    refine hc.out.mono ?_
    rintro e w' ⟨v', x, rfl, ha, hb, hf⟩
    clear hc hcv hcv2
    have HF : Hid (∀ w2, Below w'.heap.size w' w2 → Below w.heap.size w w2) := Lib.hid fun w2 h => tight_fin HB.out HS.out hf h
    clear hf HB HS
  · obtain ⟨p, rfl, hp, hby⟩ := hb rfl
    have HTX : Hid (∀ W, Below w'.heap.size w' W → (convert 56 9 v').run Tryd.prog W = .ok (.string ⟨dst.data.toList.toArray⟩) W) := Lib.hid fun W h => (hby.belowW h).text
    have t0 := HTX.out w'.drew (below_drew1 w')
    have HO : Hid (∀ W, Below w'.heap.size w' W → Calls Tryd.prog 35 #[.iface 94 (.pointer (some ⟨p, 0, none⟩))] W (fun e w2 => (∃ k : Int, e = .returned (.int .i64 k)) ∧ Below w'.heap.size w' w2)) := Lib.hid fun W h => (offsetErr p W (hp.same (h.block p hp.lt))).mono fun e w2 ⟨a, b⟩ => ⟨a, h.trans (b.mono h.size)⟩
    clear ha hb hp hby
    go_wp2
    go_region_law (go_simp; go_at_call 35; refine (HO.out _ (below_drew1 w')).mono ?_; rintro e w2 ⟨⟨k, rfl⟩, hb2⟩; have t2 := HTX.out w2 hb2; have H2 := Lib.hid (HF.out w2 hb2); clear hb2)
    all_goals go_wp2
    all_goals go_ret3
    all_goals exact ⟨_, k, rfl, (fun z => by cases z), H2.out⟩
  · obtain ⟨rfl, hB⟩ := ha rfl
    have HTX : Hid (∀ W, Below w'.heap.size w' W → (convert 56 9 v').run Tryd.prog W = .ok (.string ⟨L.toArray⟩) W) := Lib.hid fun W h => (hB.below h hB.block).text
    have t0 := HTX.out w'.drew (below_drew1 w')
    have HO : Hid (∀ W, Below w'.heap.size w' W → Calls Tryd.prog 35 #[.nilIface] W (fun e w2 => (∃ k : Int, e = .returned (.int .i64 k)) ∧ Below w'.heap.size w' w2)) := Lib.hid fun W h => (offsetNil W).mono fun e w2 ⟨a, b⟩ => ⟨a, h.trans (b.mono h.size)⟩
    clear ha hb hB
    go_wp2
    go_region_law (go_simp; go_at_call 35; refine (HO.out _ (below_drew1 w')).mono ?_; rintro e w2 ⟨⟨k, rfl⟩, hb2⟩; have t2 := HTX.out w2 hb2; have H2 := Lib.hid (HF.out w2 hb2); clear hb2)
    all_goals go_wp2
    all_goals go_ret3
    all_goals exact ⟨_, k, rfl, (fun _ => rfl), H2.out⟩
/-- What a check answers. -/
def ErrPost (b : Bool) (w : World) (e : Ending) (w' : World) : Prop :=
  ∃ x, e = .returned x ∧ (b = true → x = .nilIface) ∧ (b = false → ∃ p, x = .iface 94 (.pointer (some ⟨p, 0, none⟩)) ∧ SynAt w' p) ∧ Below w.heap.size w w'
theorem zzCheck (g cap : Nat) (l : List UInt8) (w : World) (hl : l.length < 10000) (hb : BytesAt w g 0 l) (hg : g < w.heap.size) :
    Calls Tryd.prog 34 #[.slice (some ⟨g, 0, none⟩) l.length cap] w (ErrPost (takenB l) w) := by
  have HNS := Lib.hid (newScannerS w)
  have HCV : Hid (∀ w1, ScAt w1 w.heap.size (w.heap.size + 1) c0C → Below w.heap.size w w1 → Calls Tryd.prog 53 #[.slice (some ⟨g, 0, none⟩) l.length cap, .pointer (some ⟨w.heap.size, 0, none⟩)] w1 (ErrPost (takenB l) w)) :=
    Lib.hid fun w1 a b2 => (checkValidS w.heap.size (w.heap.size + 1) g cap l w1 (a.raw rfl) hl (hb.below b2 hg) (by omega) (by omega)).mono fun e w2 ⟨v, s', q1, q2, q3, q4, q5⟩ => by
      refine ⟨v, q1, q4, fun hz => ?_, ?_⟩
      · obtain ⟨p, r1, _, r2⟩ := q5 hz
        exact ⟨p, r1, r2⟩
      · exact ⟨q3.os.trans b2.os, q3.tape.trans b2.tape, q3.output.trans b2.output, Nat.le_trans b2.size q3.size, fun i hi => (q3.block i (by omega) (by omega) (by omega)).trans (b2.block i hi)⟩
  generalize takenB l = b at HCV ⊢
  generalize l.length = n at HCV ⊢
  clear hb hl
  go_enter Tryd.func34, Tryd.ntmps34
  go_wp2_with fail
  refine HNS.out.mono ?_
  rintro e w1 ⟨rfl, h1, b1⟩
  have HC := Lib.hid (HCV.out w1 h1 b1)
  clear h1 b1 HNS HCV
  go_wp2_with fail
  refine HC.out.mono ?_
  rintro e w2 ⟨x, rfl, h⟩
  have H := Lib.hid h
  clear h HC
  go_wp2
  go_ret
  exact ⟨x, rfl, H.out⟩
/-- What OldCheck answers. -/
def CheckPost (b : Bool) (w : World) (e : Ending) (w' : World) : Prop := ∃ k : Int, e = .returned (.tuple #[.bool b, .int .i64 k]) ∧ Below w.heap.size w w'
theorem oldCheck (text : ByteArray) (w : World) (h1 : text.size ≤ 1000) :
    Calls Tryd.prog 18 #[.string text] w (CheckPost (takenB text.data.toList) w) := by
  have hcv := run_conv text w
  have hlt : w.heap.size < (convWorld w text).heap.size := by rw [conv_size]; omega
  have hc := zzCheck w.heap.size (convCap w text) text.data.toList (convWorld w text) (by rw [size_list]; omega) (conv_bytes text w) hlt
  rw [size_list] at hc
  have hbel := conv_below text w
  generalize takenB text.data.toList = b at hc ⊢
  generalize convWorld w text = W at hc hcv hlt hbel
  have HC := Lib.hid hc
  have HF : Hid (∀ w1 w2, Below W.heap.size W w1 → Below w1.heap.size w1 w2 → Below w.heap.size w w2) := Lib.hid fun w1 w2 a c => hbel.trans ((a.trans (c.mono a.size)).mono (Nat.le_of_lt hlt))
  clear hc h1 hbel hlt
  cases b
  all_goals
    go_enter Tryd.func18, Tryd.ntmps18
    go_wp2_with fail
    refine HC.out.mono ?_
    rintro e w1 ⟨x, rfl, ha, hb, hf⟩
    have HF1 := Lib.hid fun w2 => HF.out w1 w2 hf
    clear hf HC HF hcv
  · obtain ⟨p, rfl, hp⟩ := hb rfl
    have HO : Hid (∀ W, Below w1.heap.size w1 W → Calls Tryd.prog 35 #[.iface 94 (.pointer (some ⟨p, 0, none⟩))] W (fun e w2 => (∃ k : Int, e = .returned (.int .i64 k)) ∧ Below w1.heap.size w1 w2)) := Lib.hid fun W h => (offsetErr p W (hp.same (h.block p hp.lt))).mono fun e w2 ⟨a, b⟩ => ⟨a, h.trans (b.mono h.size)⟩
    clear ha hb hp
    go_wp2
    go_region_law (go_simp; go_at_call 35; refine (HO.out _ (below_drew1 w1)).mono ?_; rintro e w2 ⟨⟨k, rfl⟩, hb2⟩; have H2 := Lib.hid (HF1.out w2 hb2); clear hb2)
    all_goals go_wp2
    all_goals go_ret2
    all_goals exact ⟨k, rfl, H2.out⟩
  · obtain rfl := ha rfl
    have HO : Hid (∀ W, Below w1.heap.size w1 W → Calls Tryd.prog 35 #[.nilIface] W (fun e w2 => (∃ k : Int, e = .returned (.int .i64 k)) ∧ Below w1.heap.size w1 w2)) := Lib.hid fun W h => (offsetNil W).mono fun e w2 ⟨a, b⟩ => ⟨a, h.trans (b.mono h.size)⟩
    clear ha hb
    go_wp2
    go_region_law (go_simp; go_at_call 35; refine (HO.out _ (below_drew1 w1)).mono ?_; rintro e w2 ⟨⟨k, rfl⟩, hb2⟩; have H2 := Lib.hid (HF1.out w2 hb2); clear hb2)
    all_goals go_wp2
    all_goals go_ret2
    all_goals exact ⟨k, rfl, H2.out⟩
end Go.Proofs.YtklncgmfbflooaaDoor
