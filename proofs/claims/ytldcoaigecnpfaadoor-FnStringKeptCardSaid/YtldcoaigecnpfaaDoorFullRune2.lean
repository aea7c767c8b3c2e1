/- utf8.FullRune over three bytes of which the second one is a quotation mark; walked. -/
import Derived.Test.YtldcoaigecnpfaaDoorFullRune
namespace Go.Proofs.YtldcoaigecnpfaaDoor
open Go.RowKit
set_option maxRecDepth 100000 in
set_option maxHeartbeats 4000000 in
theorem fullRune3 (l : List UInt8) (g o cap : Nat) (w : World) (hT : Lib.Utf8Tabs 3 4 w) (hb : BytesAt w g o l) (h0 : 128 ≤ natL l 0) (h3 : l.length = 3) (h34 : natL l 1 = 34) :
    Calls Tryd.prog 76 #[.slice (some ⟨g, o, none⟩) l.length cap] w fun e w' => e = .returned (.bool true) ∧ Below w.heap.size w w' := by
  have hlt := natL_lt l 0
  have c0 := hb 0 (by omega)
  rw [Nat.add_zero, natL_at] at c0
  have hf := hT.1 (natL l 0) hlt
  have hacc := hT.2
  have hx : Lib.firstT (natL l 0) = 241 ∨ Lib.firstT (natL l 0) = 2 ∨ Lib.firstT (natL l 0) = 19 ∨ Lib.firstT (natL l 0) = 3 ∨ Lib.firstT (natL l 0) = 35 ∨ Lib.firstT (natL l 0) = 52 ∨ Lib.firstT (natL l 0) = 4 ∨ Lib.firstT (natL l 0) = 68 := by
    have := Lib.firstT_cases (natL l 0)
    rcases this with q | q
    · exfalso
      unfold Lib.firstT at q
      (repeat' split at q) <;> omega
    · exact q
  have hbw : g < w.heap.size := World.block_lt_of_cell? _ _ c0
  have c1 := hb 1 (by omega)
  rw [natL_at] at c1
  have l1 := natL_lt l 1
  have ha0 := hacc 0 (by decide)
  have ha1 := hacc 1 (by decide)
  have ha2 := hacc 2 (by decide)
  have ha3 := hacc 3 (by decide)
  have ha4 := hacc 4 (by decide)
  simp only [Lib.accLo, Lib.accHi, Nat.reduceMul, Nat.reduceAdd, Nat.reduceEqDiff, if_true, if_false] at ha0 ha1 ha2 ha3 ha4
  clear hT hb hacc
  generalize Lib.firstT (natL l 0) = x at *
  generalize natL l 0 = b0 at *
  generalize natL l 1 = b1 at *
  generalize l.length = n at *
  have c0' : w.cell? ⟨g, o, none⟩ = some (.int .u8 b0) := c0
  clear c0
  subst h3 h34
  have c1' : w.cell? ⟨g, o + 1, none⟩ = some (.int .u8 34) := c1
  clear c1
  rcases hx with rfl | rfl | rfl | rfl | rfl | rfl | rfl | rfl
  · have hf' : w.cell? ⟨3, b0, none⟩ = some (.int .u8 241) := hf
    clear hf
    clear ha0 ha1 ha2 ha3 ha4
    go_enter Tryd.func76, Tryd.ntmps76
    go_wp2
    go_ret
    exact ⟨rfl, Below.refl _ _⟩
  · have hf' : w.cell? ⟨3, b0, none⟩ = some (.int .u8 2) := hf
    clear hf
    clear ha0 ha1 ha2 ha3 ha4
    go_enter Tryd.func76, Tryd.ntmps76
    go_wp2
    go_ret
    exact ⟨rfl, Below.refl _ _⟩
  · have hf' : w.cell? ⟨3, b0, none⟩ = some (.int .u8 19) := hf
    clear hf
    clear ha0 ha1 ha2 ha3 ha4
    go_enter Tryd.func76, Tryd.ntmps76
    go_wp2
    go_ret
    exact ⟨rfl, Below.refl _ _⟩
  · have hf' : w.cell? ⟨3, b0, none⟩ = some (.int .u8 3) := hf
    clear hf
    clear ha0 ha1 ha2 ha3 ha4
    go_enter Tryd.func76, Tryd.ntmps76
    go_wp2
    go_ret
    exact ⟨rfl, Below.refl _ _⟩
  · have hf' : w.cell? ⟨3, b0, none⟩ = some (.int .u8 35) := hf
    clear hf
    clear ha0 ha1 ha2 ha3 ha4
    go_enter Tryd.func76, Tryd.ntmps76
    go_wp2
    go_ret
    exact ⟨rfl, Below.refl _ _⟩
  · have hf' : w.cell? ⟨3, b0, none⟩ = some (.int .u8 52) := hf
    clear hf
    have hA : w.cell? ⟨4, 6, none⟩ = some (.int .u8 144) := ha3.1
    have hA2 : w.cell? ⟨4, 7, none⟩ = some (.int .u8 191) := ha3.2
    clear ha0 ha1 ha2 ha3 ha4
    go_enter Tryd.func76, Tryd.ntmps76
    go_wp2
    go_region
    go_wp2
    go_ret
    exact ⟨rfl, ⟨rfl, rfl, rfl, by simp, fun k hk => alloc_old w _ k hk⟩⟩
  · have hf' : w.cell? ⟨3, b0, none⟩ = some (.int .u8 4) := hf
    clear hf
    have hA : w.cell? ⟨4, 0, none⟩ = some (.int .u8 128) := ha0.1
    have hA2 : w.cell? ⟨4, 1, none⟩ = some (.int .u8 191) := ha0.2
    clear ha0 ha1 ha2 ha3 ha4
    go_enter Tryd.func76, Tryd.ntmps76
    go_wp2
    go_region
    go_wp2
    go_ret
    exact ⟨rfl, ⟨rfl, rfl, rfl, by simp, fun k hk => alloc_old w _ k hk⟩⟩
  · have hf' : w.cell? ⟨3, b0, none⟩ = some (.int .u8 68) := hf
    clear hf
    have hA : w.cell? ⟨4, 8, none⟩ = some (.int .u8 128) := ha4.1
    have hA2 : w.cell? ⟨4, 9, none⟩ = some (.int .u8 143) := ha4.2
    clear ha0 ha1 ha2 ha3 ha4
    go_enter Tryd.func76, Tryd.ntmps76
    go_wp2
    go_region
    go_wp2
    go_ret
    exact ⟨rfl, ⟨rfl, rfl, rfl, by simp, fun k hk => alloc_old w _ k hk⟩⟩
/-- Where a quotation mark stands among the last bytes. -/
theorem fullRuneQ (l : List UInt8) (g o cap : Nat) (w : World) (hT : Lib.Utf8Tabs 3 4 w) (hb : BytesAt w g o l) (h0 : 128 ≤ natL l 0) (h2 : 2 ≤ l.length) (hm : l.length ≤ 140737488355328)
    (e2 : l.length = 2 → natL l 1 = 34) (e3 : l.length = 3 → natL l 1 = 34 ∨ natL l 2 = 34) :
    Calls Tryd.prog 76 #[.slice (some ⟨g, o, none⟩) l.length cap] w fun e w' => e = .returned (.bool true) ∧ Below w.heap.size w w' := by
  by_cases h3 : l.length = 3
  · rcases e3 h3 with q | q
    · exact fullRune3 l g o cap w hT hb h0 h3 q
    · exact fullRune l g o cap w hT hb h0 h2 hm e2 (fun _ => q)
  · exact fullRune l g o cap w hT hb h0 h2 hm e2 (fun q => absurd q h3)
end Go.Proofs.YtldcoaigecnpfaaDoor
