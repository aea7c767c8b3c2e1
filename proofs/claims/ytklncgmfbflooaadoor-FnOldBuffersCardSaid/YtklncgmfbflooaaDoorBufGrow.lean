/- bytes.Buffer: Grow, AvailableBuffer, String, NewBufferString, walked. -/
import Derived.Test.YtklncgmfbflooaaDoorBuffer
import Derived.Lib.Strings
namespace Go.Proofs.YtklncgmfbflooaaDoor
open Go.RowKit
/-- What Grow leaves. -/
def GrownPost (p g0 o0 c0 n : Nat) (L : List UInt8) (w : World) (e : Ending) (w' : World) : Prop :=
  ∃ g o c, e = .returned (.tuple #[]) ∧ BHead w' p (.slice (some ⟨g, o, none⟩) L.length c) ∧ Buf w' 0 none (.slice (some ⟨g, o, none⟩) L.length c) L ∧ L.length + n ≤ c ∧ g ≠ p ∧ Gp p w w' ∧ ((g = g0 ∧ o = o0 ∧ c = c0) ∨ w.heap.size ≤ g)
set_option maxHeartbeats 1000000 in
theorem GrowS (p g o c n : Nat) (L : List UInt8) (w : World) (h : BHead w p (.slice (some ⟨g, o, none⟩) L.length c)) (hB : Buf w 0 none (.slice (some ⟨g, o, none⟩) L.length c) L) (hpg : g ≠ p)
    (hlc : L.length ≤ c) (hc : c ≤ maxLen) (hL : L.length ≤ 100000000) (hn : n ≤ 100000000) :
    Calls Tryd.prog 43 #[.pointer (some ⟨p, 0, none⟩), .int .i64 n] w (GrownPost p g o c n L w) := by
  have HG := Lib.hid (growS p g o c n L w h hB hpg hlc hc hL hn)
  have hn0 : ¬ (n : Int) < 0 := by omega
  clear h hB hpg hlc hc hL hn
  go_enter Tryd.func43, Tryd.ntmps43
  go_wp2_with fail
  refine HG.out.mono ?_
  rintro e w1 ⟨g1, o1, c1, rfl, hh, hb, hle, hne, hgp, hor⟩
  have h0 := hh.c0
  have hf := hh.fz
  have hfin : Hid (GrownPost p g o c n L w (.returned (.tuple #[])) (w1.setCell ⟨p, 0, none⟩ (.slice (some ⟨g1, o1, none⟩) L.length c1))) :=
    ⟨g1, o1, c1, rfl, hh.set _, hb.setP hne _, hle, hne, hgp.set _ _, hor⟩
  have hlc1 : (L.length : Int) ≤ (c1 : Int) := by omega
  clear hh hb hle hne hgp hor HG
  generalize L.length = l at *
  go_wp2
  go_end0
  exact hfin.out
def AvPost (v : Value) (w : World) (e : Ending) (w' : World) : Prop := e = .returned v ∧ ∃ k, w' = w.drewN k
set_option maxHeartbeats 1000000 in
theorem availS (p g o l c : Nat) (w : World) (h : BHead w p (.slice (some ⟨g, o, none⟩) l c)) (hlc : l < c) :
    Calls Tryd.prog 46 #[.pointer (some ⟨p, 0, none⟩)] w (AvPost (.slice (some ⟨g, o + l, none⟩) 0 (c - l)) w) := by
  have c0 := h.c0
  have hne : ¬ (c = l) := by omega
  have hle : (l : Int) ≤ (c : Int) := by omega
  clear h
  go_enter Tryd.func46, Tryd.ntmps46
  go_wp2
  go_quiet (fail)
  go_wp2
  go_ret
  exact ⟨rfl, _, rfl⟩
set_option maxHeartbeats 1000000 in
theorem stringS (p g o c : Nat) (L : List UInt8) (w : World) (h : BHead w p (.slice (some ⟨g, o, none⟩) L.length c)) (hB : Buf w 0 none (.slice (some ⟨g, o, none⟩) L.length c) L) (hlc : L.length ≤ c) :
    Calls Tryd.prog 26 #[.pointer (some ⟨p, 0, none⟩)] w (AvPost (.string ⟨L.toArray⟩) w) := by
  have c0 := h.c0
  have c1 := h.c1
  have htx := fun k => (hB.drewN k).text
  have hle : (L.length : Int) ≤ (c : Int) := by omega
  clear h hB
  generalize (⟨L.toArray⟩ : ByteArray) = T at htx ⊢
  generalize L.length = l at *
  go_enter Tryd.func26, Tryd.ntmps26
  go_wp2
  go_quiet (fail)
  go_wp2
  go_ret
  exact ⟨rfl, _, rfl⟩
end Go.Proofs.YtklncgmfbflooaaDoor
