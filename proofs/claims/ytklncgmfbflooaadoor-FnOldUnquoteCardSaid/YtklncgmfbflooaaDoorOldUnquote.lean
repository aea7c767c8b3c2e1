/- jsonscan.unquote, ZZUnquote and impl.OldUnquote over the text of a string, walked. -/
import Derived.Test.YtklncgmfbflooaaDoorOldUnq
namespace Go.Proofs.YtklncgmfbflooaaDoor
open Go.RowKit
theorem bytes_text {w : World} {g o c : Nat} {L : List UInt8} (h : BytesAt w g o L) : (convert 56 9 (.slice (some ⟨g, o, none⟩) L.length c)).run Tryd.prog w = .ok (.string ⟨L.toArray⟩) w := by
  rw [← strOfNums_list L]
  refine run_convert_bytes_arg _ _ 5 Tryd.underlying56 Tryd.underlying5 g o L.length c _ (by simp) (fun i hi => ?_) 9 Tryd.underlying9
  rw [h i hi]
  simp [atL, List.getD_eq_getElem?_getD, hi]
def UnqS (L : List UInt8) (w : World) (e : Ending) (w' : World) : Prop := e = .returned (.tuple #[.string ⟨L.toArray⟩, .bool true]) ∧ Below w.heap.size w w'
set_option maxRecDepth 100000 in
theorem unquoteS (g cap : Nat) (m : List UInt8) (w : World) (hm : BytesAt w g 0 (qT m)) (hcap : m.length + 2 ≤ cap) (hsz : m.length ≤ 1000000) (hg : g < w.heap.size)
    (hT : Lib.Utf8Tabs 3 4 w) (hok : okL m = true) :
    Calls Tryd.prog 52 #[.slice (some ⟨g, 0, none⟩) (m.length + 2) cap] w (UnqS (dcL m) w) := by
  have hc := unqBytes g cap m w hm hcap hsz hg hT hok
  have HT : Hid (∀ w' g o c, BytesAt w' g o (dcL m) → (convert 56 9 (.slice (some ⟨g, o, none⟩) (dcL m).length c)).run Tryd.prog w' = .ok (.string ⟨(dcL m).toArray⟩) w') := Lib.hid fun w' g o c h => bytes_text h
  generalize dcL m = Q at hc HT ⊢
  clear hm hcap hsz hg hT hok
  have HC := Lib.hid hc
  clear hc
  go_enter Tryd.func52, Tryd.ntmps52
  go_wp2_with fail
  refine HC.out.mono ?_
  rintro e w1 ⟨g1, o1, c1, rfl, hb1, hg1, hbel⟩
  have htx := HT.out w1 g1 o1 c1 hb1
  have HB := Lib.hid hbel
  clear HC HT hb1 hbel
  generalize Q.length = n at *
  go_wp2
  go_ret2
  exact ⟨rfl, HB.out⟩
theorem zzUnquote (g cap : Nat) (m : List UInt8) (w : World) (hm : BytesAt w g 0 (qT m)) (hcap : m.length + 2 ≤ cap) (hsz : m.length ≤ 1000000) (hg : g < w.heap.size)
    (hT : Lib.Utf8Tabs 3 4 w) (hok : okL m = true) :
    Calls Tryd.prog 33 #[.slice (some ⟨g, 0, none⟩) (m.length + 2) cap] w (UnqS (dcL m) w) := by
  have hc := unquoteS g cap m w hm hcap hsz hg hT hok
  generalize dcL m = Q at hc ⊢
  clear hm hcap hsz hg hT hok
  have HC := Lib.hid hc
  clear hc
  go_enter Tryd.func33, Tryd.ntmps33
  go_wp2_with fail
  refine HC.out.mono ?_
  rintro e w1 ⟨rfl, hb⟩
  have HB := Lib.hid hb
  clear HC hb
  go_wp2
  go_ret2
  exact ⟨rfl, HB.out⟩
theorem oldUnquote (t : ByteArray) (m : List UInt8) (w : World) (ht : t.data.toList = qT m) (hs : t.size ≤ 1000000) 
    (hT : Lib.Utf8Tabs 3 4 w) (hok : okL m = true) :
    Calls Tryd.prog 17 #[.string t] w (UnqS (dcL m) w) := by
  have hsz : t.size = m.length + 2 := by rw [← size_list, ht, qT_length]
  have hu1 : 3 < w.heap.size := World.block_lt_of_cell? _ _ (hT.1 0 (by decide))
  have hu2 : 4 < w.heap.size := World.block_lt_of_cell? _ _ (hT.2 0 (by decide)).1
  have hbel := conv_below t w
  have hbt := conv_bytes t w
  rw [ht] at hbt
  have hlt : w.heap.size < (convWorld w t).heap.size := by rw [conv_size]; omega
  have hge : t.size ≤ convCap w t := grownCap_ge _ _ _ _
  have hc := zzUnquote w.heap.size (convCap w t) m (convWorld w t) hbt (by omega) (by omega) hlt (u8_below hT hbel hu1 hu2) hok
  have hcv := run_conv t w
  rw [hsz] at hcv
  generalize dcL m = Q at hc ⊢
  generalize convWorld w t = W1 at hc hcv hbel hlt
  generalize convCap w t = c1 at hc hcv
  have HB := Lib.hid hbel
  have HS := Lib.hid (Nat.le_of_lt hlt)
  have HC := Lib.hid hc
  clear hbt hc hT hok hu1 hu2 hge hbel hlt ht hs hsz
  go_enter Tryd.func17, Tryd.ntmps17
  go_wp2_with fail
  refine HC.out.mono ?_
  rintro e w1 ⟨rfl, hb⟩
  have HB2 := Lib.hid (HB.out.trans (hb.mono HS.out))
  clear HC hb hcv
  go_wp2
  go_ret2
  exact ⟨rfl, HB2.out⟩
end Go.Proofs.YtklncgmfbflooaaDoor
