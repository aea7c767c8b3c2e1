/- The statement FnWireSimpleString, walked: it returns true, and leaves all that lay below as it was. Condition: the table of escaped characters holds what its initialiser lays. -/
import Derived.Test.YtbnnccadnnfomaaDoorSimpleStr
import Derived.Test.YtbnnccadnnfomaaDoorShort
namespace Go.Proofs.YtbnnccadnnfomaaDoor
open Go.RowKit
theorem EscAt.size {w : World} (h : EscAt w) : 0 < w.heap.size := by
  have h4 := h 0 (by omega)
  unfold World.cell? at h4
  rcases Nat.lt_or_ge 0 w.heap.size with h5 | h5
  · exact h5
  · rw [Array.getElem?_eq_none (by show w.heap.size ≤ 0; omega)] at h4; cases h4
theorem EscAt.below {w w' : World} (h : EscAt w) (hb : Below w.heap.size w w') : EscAt w' := fun c hc =>
  (hb.cell (p := ⟨0, c, none⟩) h.size).trans (h c hc)
theorem consume_any (g cap : Nat) (l : List UInt8) (w : World) (hs : l.length ≤ 2147483647) (hE : EscAt w) (hc : BytesAt w g 0 l) :
    Calls Tryd.prog 7 #[.slice (some ⟨g, 0, none⟩) l.length cap] w (fun e w' => e = .returned (.int .i64 (css l)) ∧ w = w') := by
  by_cases h : 0 < l.length ∧ atL l 0 = 34
  · exact consume g cap l w hs h.1 hE hc h.2
  · have hv : css l = 0 := by unfold css; rw [if_neg h]
    rw [hv]
    by_cases h0 : 0 < l.length
    · have c0 : w.cell? ⟨g, 0, none⟩ = some (.int .u8 (atL l 0)) := by have := hc 0 h0; rwa [Nat.zero_add] at this
      have hq : (atL l 0 == 34) = false := by simp; exact fun q => h ⟨h0, q⟩
      generalize atL l 0 = c at c0 hq
      generalize l.length = n at hs h0 ⊢
      clear hc h hv hE
      go_enter Tryd.func7, Tryd.ntmps7
      go_wp2
      go_ret
      exact ⟨rfl, rfl⟩
    · have e0 : l.length = 0 := by omega
      rw [e0]
      clear h h0 hc hs hv hE e0
      go_enter Tryd.func7, Tryd.ntmps7
      go_wp2
      go_ret
      exact ⟨rfl, rfl⟩
theorem wireSimpleStr (s : ByteArray) (w : World) (hs : s.size ≤ 2147483647) (hE : EscAt w) : Calls Tryd.prog 5 #[.string s] w fun e w' => e = .returned (.int .i64 (css s.data.toList)) ∧ Below w.heap.size w w' := by
  have hcv := run_conv s
  have hc := consume_any w.heap.size (convCap w s) s.data.toList (convWorld w s) (by rw [size_list]; exact hs) (hE.below (conv_below s w)) (conv_bytes s w)
  rw [size_list] at hc
  generalize css s.data.toList = r at hc ⊢
  have HC := Lib.hid hc
  clear hc hE
  go_enter Tryd.func5, Tryd.ntmps5
  go_wp2_with fail
  refine HC.out.mono ?_
  rintro e w' ⟨rfl, rfl⟩
  clear hcv
  go_wp2
  go_ret
  exact ⟨rfl, conv_below s w⟩
theorem guard1 (p : ByteArray) (w : World) (hp : p.size ≤ 2147483647) :
    Calls Tryd.prog 4 #[.slice (some ⟨w.heap.size, 0, none⟩) 1 1] (w.alloc (Obj.cells #[.string p] 9)) fun e w' => e = .returned (.bool ([p].all okShort)) ∧ w.alloc (Obj.cells #[.string p] 9) = w' :=
  short10 w.heap.size [p] 1 _ (by simp) (fun s hs => by simp at hs; subst hs; assumption) (fun j h => by
    match j, h with
    | 0, _ => simp)
set_option maxHeartbeats 1000000 in
theorem law_walk (s : ByteArray) (w : World) (hs : s.size ≤ 2147483647) (hE : EscAt w) :
    Calls Tryd.prog 3 #[.string s] w fun e w' => e = .returned (.bool true) ∧ Below w.heap.size w w' := by
  have hg := guard1 s w hs
  generalize [s].all okShort = g at hg
  cases g
  · go_enter Tryd.func3, Tryd.ntmps3
    go_wp2_with fail
    refine hg.mono ?_
    rintro e w' ⟨rfl, rfl⟩
    clear hg
    go_wp2
    go_ret
    exact ⟨rfl, (Below.refl _ _).alloc (Nat.le_refl _) _⟩
  · have hA : Below w.heap.size w (w.alloc (Obj.cells #[.string s] 9)) := (Below.refl _ _).alloc (Nat.le_refl _) _
    have hws := wireSimpleStr s _ hs (hE.below hA)
    have hsn := fun W => simpleString s W hs
    generalize css s.data.toList = m at hws hsn
    have HSN := Lib.hid hsn
    have HWS := Lib.hid hws
    have HA := Lib.hid hA
    clear hsn hws hE hA
    go_enter Tryd.func3, Tryd.ntmps3
    go_wp2_with fail
    refine hg.mono ?_
    rintro e w' ⟨rfl, rfl⟩
    clear hg
    go_wp2_with fail
    refine HWS.out.mono ?_
    rintro e w1 ⟨rfl, hb⟩
    have HB := Lib.hid hb
    clear hb HWS
    go_wp2_with fail
    refine (HSN.out _).mono ?_
    rintro e w2 ⟨rfl, hb2⟩
    have HB2 := Lib.hid hb2
    clear hb2 HSN
    go_wp2
    go_ret
    have h1 := HA.out.trans (HB.out.mono HA.out.size)
    exact ⟨rfl, h1.trans (HB2.out.mono h1.size)⟩
theorem fnWireSimpleString_any (s : ByteArray) (w : World) (_ : s.size ≤ maxLen) (hE : EscAt w) :
    Calls Tryd.prog 3 #[.string s] w fun e w' => e = .returned (.bool true) ∧ Below w.heap.size w w' := by
  by_cases h : s.size ≤ 2147483647
  · exact law_walk s w h hE
  · have h' : 2147483647 < s.size := by omega
    clear hE
    go_enter Tryd.func3, Tryd.ntmps3
    go_wp2
    go_ret
    exact ⟨rfl, Below.refl _ _⟩
end Go.Proofs.YtbnnccadnnfomaaDoor
