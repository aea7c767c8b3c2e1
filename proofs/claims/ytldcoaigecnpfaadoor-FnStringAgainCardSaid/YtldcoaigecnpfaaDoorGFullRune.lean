/- utf8.FullRune where a quotation mark ends the bytes: true; walked. utf8.FullRune over three bytes of which the second one is a quotation mark; walked. -/
import Derived.Test.YtldcoaigecnpfaaDoorGUtf16
import Derived.Test.YtldcoaigecnpfaaDoorGBytes
import Derived.Deep.RegionWith
import Derived.Lib.Hide
namespace Go.Proofs.YtldcoaigecnpfaaDoor
open Go.RowKit
set_option maxRecDepth 100000 in
set_option maxHeartbeats 4000000 in
theorem fullRune (l : List UInt8) (g o cap : Nat) (w : World) (hT : Lib.Utf8Tabs 3 4 w) (hb : BytesAt w g o l) (h0 : 128 ≤ natL l 0) (h2 : 2 ≤ l.length) (hm : l.length ≤ 140737488355328)
    (e2 : l.length = 2 → natL l 1 = 34) (e3 : l.length = 3 → natL l 2 = 34) :
    Calls Tryd.prog 76 #[.slice (some ⟨g, o, none⟩) l.length cap] w fun e w' => e = .returned (.bool true) ∧ Below w.heap.size w w' := by
  have hlt := natL_lt l 0
  have c0 := hb 0 (by omega)
  rw [Nat.add_zero, natL_at] at c0
  have hf := hT.1 (natL l 0) hlt
  have hacc := hT.2
  have hx : Lib.firstT (natL l 0) = 241 ∨ Lib.firstT (natL l 0) = 2 ∨ Lib.firstT (natL l 0) = 19 ∨ Lib.firstT (natL l 0) = 3 ∨ Lib.firstT (natL l 0) = 35 ∨ Lib.firstT (natL l 0) = 52 ∨ Lib.firstT (natL l 0) = 4 ∨ Lib.firstT (natL l 0) = 68 := by
    have := Lib.firstT_cases (natL l 0)
    rcases this with q | q
    · exfalso
      unfold Lib.firstT at q
      (repeat' split at q) <;> omega
    · exact q
  have hbw : g < w.heap.size := World.block_lt_of_cell? _ _ c0
  have c1 := hb 1 (by omega)
  rw [natL_at] at c1
  have l1 := natL_lt l 1
  have hb2 : ∀ h : 3 ≤ l.length, w.cell? ⟨g, o + 2, none⟩ = some (.int .u8 (natL l 2)) := fun h => by have := hb 2 (by omega); rw [natL_at] at this; exact this
  have ha0 := hacc 0 (by decide)
  have ha1 := hacc 1 (by decide)
  have ha2 := hacc 2 (by decide)
  have ha3 := hacc 3 (by decide)
  have ha4 := hacc 4 (by decide)
  simp only [Lib.accLo, Lib.accHi, Nat.reduceMul, Nat.reduceAdd, Nat.reduceEqDiff, if_true, if_false] at ha0 ha1 ha2 ha3 ha4
  clear hT hb hacc
  generalize Lib.firstT (natL l 0) = x at *
  generalize natL l 0 = b0 at *
  generalize natL l 1 = b1 at *
  generalize natL l 2 = b2 at *
  generalize l.length = n at *
  have hn : n = 2 ∨ n = 3 ∨ 4 ≤ n := by omega
  have c0' : w.cell? ⟨g, o, none⟩ = some (.int .u8 b0) := c0
  clear c0
  rcases hx with rfl | rfl | rfl | rfl | rfl | rfl | rfl | rfl
  · have hf' : w.cell? ⟨3, b0, none⟩ = some (.int .u8 241) := hf
    clear hf
    clear hn ha0 ha1 ha2 ha3 ha4 hb2
    go_enter Tryd.func76, Tryd.ntmps76
    go_wp2
    go_ret
    exact ⟨rfl, Below.refl _ _⟩
  · have hf' : w.cell? ⟨3, b0, none⟩ = some (.int .u8 2) := hf
    clear hf
    clear hn ha0 ha1 ha2 ha3 ha4 hb2
    go_enter Tryd.func76, Tryd.ntmps76
    go_wp2
    go_ret
    exact ⟨rfl, Below.refl _ _⟩
  · have hf' : w.cell? ⟨3, b0, none⟩ = some (.int .u8 19) := hf
    clear hf
    have hA : w.cell? ⟨4, 2, none⟩ = some (.int .u8 160) := ha1.1
    have hA2 : w.cell? ⟨4, 3, none⟩ = some (.int .u8 191) := ha1.2
    clear ha0 ha1 ha2 ha3 ha4
    rcases hn with rfl | rfl | hn
    · have e1 : b1 = 34 := e2 rfl
      subst e1
      have c1' : w.cell? ⟨g, o + 1, none⟩ = some (.int .u8 34) := c1
      clear c1 hb2 e2 e3
      go_enter Tryd.func76, Tryd.ntmps76
      go_wp2
      go_region
      go_wp2
      go_ret
      exact ⟨rfl, ⟨rfl, rfl, rfl, by simp, fun k hk => alloc_old w _ k hk⟩⟩
    · clear hb2 e2 e3
      go_enter Tryd.func76, Tryd.ntmps76
      go_wp2
      go_ret
      exact ⟨rfl, Below.refl _ _⟩
    · clear hb2 e2 e3
      go_enter Tryd.func76, Tryd.ntmps76
      go_wp2
      go_ret
      exact ⟨rfl, Below.refl _ _⟩
  · have hf' : w.cell? ⟨3, b0, none⟩ = some (.int .u8 3) := hf
    clear hf
    have hA : w.cell? ⟨4, 0, none⟩ = some (.int .u8 128) := ha0.1
    have hA2 : w.cell? ⟨4, 1, none⟩ = some (.int .u8 191) := ha0.2
    clear ha0 ha1 ha2 ha3 ha4
    rcases hn with rfl | rfl | hn
    · have e1 : b1 = 34 := e2 rfl
      subst e1
      have c1' : w.cell? ⟨g, o + 1, none⟩ = some (.int .u8 34) := c1
      clear c1 hb2 e2 e3
      go_enter Tryd.func76, Tryd.ntmps76
      go_wp2
      go_region
      go_wp2
      go_ret
      exact ⟨rfl, ⟨rfl, rfl, rfl, by simp, fun k hk => alloc_old w _ k hk⟩⟩
    · clear hb2 e2 e3
      go_enter Tryd.func76, Tryd.ntmps76
      go_wp2
      go_ret
      exact ⟨rfl, Below.refl _ _⟩
    · clear hb2 e2 e3
      go_enter Tryd.func76, Tryd.ntmps76
      go_wp2
      go_ret
      exact ⟨rfl, Below.refl _ _⟩
  · have hf' : w.cell? ⟨3, b0, none⟩ = some (.int .u8 35) := hf
    clear hf
    have hA : w.cell? ⟨4, 4, none⟩ = some (.int .u8 128) := ha2.1
    have hA2 : w.cell? ⟨4, 5, none⟩ = some (.int .u8 159) := ha2.2
    clear ha0 ha1 ha2 ha3 ha4
    rcases hn with rfl | rfl | hn
    · have e1 : b1 = 34 := e2 rfl
      subst e1
      have c1' : w.cell? ⟨g, o + 1, none⟩ = some (.int .u8 34) := c1
      clear c1 hb2 e2 e3
      go_enter Tryd.func76, Tryd.ntmps76
      go_wp2
      go_region
      go_wp2
      go_ret
      exact ⟨rfl, ⟨rfl, rfl, rfl, by simp, fun k hk => alloc_old w _ k hk⟩⟩
    · clear hb2 e2 e3
      go_enter Tryd.func76, Tryd.ntmps76
      go_wp2
      go_ret
      exact ⟨rfl, Below.refl _ _⟩
    · clear hb2 e2 e3
      go_enter Tryd.func76, Tryd.ntmps76
      go_wp2
      go_ret
      exact ⟨rfl, Below.refl _ _⟩
  · have hf' : w.cell? ⟨3, b0, none⟩ = some (.int .u8 52) := hf
    clear hf
    have hA : w.cell? ⟨4, 6, none⟩ = some (.int .u8 144) := ha3.1
    have hA2 : w.cell? ⟨4, 7, none⟩ = some (.int .u8 191) := ha3.2
    clear ha0 ha1 ha2 ha3 ha4
    rcases hn with rfl | rfl | hn
    · have e1 : b1 = 34 := e2 rfl
      subst e1
      have c1' : w.cell? ⟨g, o + 1, none⟩ = some (.int .u8 34) := c1
      clear c1 hb2 e2 e3
      go_enter Tryd.func76, Tryd.ntmps76
      go_wp2
      go_region
      go_wp2
      go_ret
      exact ⟨rfl, ⟨rfl, rfl, rfl, by simp, fun k hk => alloc_old w _ k hk⟩⟩
    · have e1 : b2 = 34 := e3 rfl
      subst e1
      have c2' : w.cell? ⟨g, o + 2, none⟩ = some (.int .u8 34) := hb2 (Nat.le_refl _)
      clear hb2 e2 e3
      have hq : (b1 : Int) < 144 ∨ (144 ≤ (b1 : Int) ∧ (b1 : Int) ≤ 191) ∨ (144 ≤ (b1 : Int) ∧ 191 < (b1 : Int)) := by omega
      rcases hq with q | ⟨q1, q2⟩ | ⟨q1, q2⟩
      · have t1 : decide ((b1 : Int) < 144) = true := by simpa using q
        go_enter Tryd.func76, Tryd.ntmps76
        go_wp2
        go_region
        go_wp2
        go_ret
        exact ⟨rfl, ⟨rfl, rfl, rfl, by simp, fun k hk => alloc_old w _ k hk⟩⟩
      · have t1 : decide ((b1 : Int) < 144) = false := by simp; omega
        have t2 : decide (191 < (b1 : Int)) = false := by simp; omega
        go_enter Tryd.func76, Tryd.ntmps76
        go_wp2
        go_region
        go_wp2
        go_ret
        exact ⟨rfl, ⟨rfl, rfl, rfl, by simp, fun k hk => alloc_old w _ k hk⟩⟩
      · have t1 : decide ((b1 : Int) < 144) = false := by simp; omega
        have t2 : decide (191 < (b1 : Int)) = true := by simp; omega
        go_enter Tryd.func76, Tryd.ntmps76
        go_wp2
        go_region
        go_wp2
        go_ret
        exact ⟨rfl, ⟨rfl, rfl, rfl, by simp, fun k hk => alloc_old w _ k hk⟩⟩
    · clear hb2 e2 e3
      go_enter Tryd.func76, Tryd.ntmps76
      go_wp2
      go_ret
      exact ⟨rfl, Below.refl _ _⟩
  · have hf' : w.cell? ⟨3, b0, none⟩ = some (.int .u8 4) := hf
    clear hf
    have hA : w.cell? ⟨4, 0, none⟩ = some (.int .u8 128) := ha0.1
    have hA2 : w.cell? ⟨4, 1, none⟩ = some (.int .u8 191) := ha0.2
    clear ha0 ha1 ha2 ha3 ha4
    rcases hn with rfl | rfl | hn
    · have e1 : b1 = 34 := e2 rfl
      subst e1
      have c1' : w.cell? ⟨g, o + 1, none⟩ = some (.int .u8 34) := c1
      clear c1 hb2 e2 e3
      go_enter Tryd.func76, Tryd.ntmps76
      go_wp2
      go_region
      go_wp2
      go_ret
      exact ⟨rfl, ⟨rfl, rfl, rfl, by simp, fun k hk => alloc_old w _ k hk⟩⟩
    · have e1 : b2 = 34 := e3 rfl
      subst e1
      have c2' : w.cell? ⟨g, o + 2, none⟩ = some (.int .u8 34) := hb2 (Nat.le_refl _)
      clear hb2 e2 e3
      have hq : (b1 : Int) < 128 ∨ (128 ≤ (b1 : Int) ∧ (b1 : Int) ≤ 191) ∨ (128 ≤ (b1 : Int) ∧ 191 < (b1 : Int)) := by omega
      rcases hq with q | ⟨q1, q2⟩ | ⟨q1, q2⟩
      · have t1 : decide ((b1 : Int) < 128) = true := by simpa using q
        go_enter Tryd.func76, Tryd.ntmps76
        go_wp2
        go_region
        go_wp2
        go_ret
        exact ⟨rfl, ⟨rfl, rfl, rfl, by simp, fun k hk => alloc_old w _ k hk⟩⟩
      · have t1 : decide ((b1 : Int) < 128) = false := by simp; omega
        have t2 : decide (191 < (b1 : Int)) = false := by simp; omega
        go_enter Tryd.func76, Tryd.ntmps76
        go_wp2
        go_region
        go_wp2
        go_ret
        exact ⟨rfl, ⟨rfl, rfl, rfl, by simp, fun k hk => alloc_old w _ k hk⟩⟩
      · have t1 : decide ((b1 : Int) < 128) = false := by simp; omega
        have t2 : decide (191 < (b1 : Int)) = true := by simp; omega
        go_enter Tryd.func76, Tryd.ntmps76
        go_wp2
        go_region
        go_wp2
        go_ret
        exact ⟨rfl, ⟨rfl, rfl, rfl, by simp, fun k hk => alloc_old w _ k hk⟩⟩
    · clear hb2 e2 e3
      go_enter Tryd.func76, Tryd.ntmps76
      go_wp2
      go_ret
      exact ⟨rfl, Below.refl _ _⟩
  · have hf' : w.cell? ⟨3, b0, none⟩ = some (.int .u8 68) := hf
    clear hf
    have hA : w.cell? ⟨4, 8, none⟩ = some (.int .u8 128) := ha4.1
    have hA2 : w.cell? ⟨4, 9, none⟩ = some (.int .u8 143) := ha4.2
    clear ha0 ha1 ha2 ha3 ha4
    rcases hn with rfl | rfl | hn
    · have e1 : b1 = 34 := e2 rfl
      subst e1
      have c1' : w.cell? ⟨g, o + 1, none⟩ = some (.int .u8 34) := c1
      clear c1 hb2 e2 e3
      go_enter Tryd.func76, Tryd.ntmps76
      go_wp2
      go_region
      go_wp2
      go_ret
      exact ⟨rfl, ⟨rfl, rfl, rfl, by simp, fun k hk => alloc_old w _ k hk⟩⟩
    · have e1 : b2 = 34 := e3 rfl
      subst e1
      have c2' : w.cell? ⟨g, o + 2, none⟩ = some (.int .u8 34) := hb2 (Nat.le_refl _)
      clear hb2 e2 e3
      have hq : (b1 : Int) < 128 ∨ (128 ≤ (b1 : Int) ∧ (b1 : Int) ≤ 143) ∨ (128 ≤ (b1 : Int) ∧ 143 < (b1 : Int)) := by omega
      rcases hq with q | ⟨q1, q2⟩ | ⟨q1, q2⟩
      · have t1 : decide ((b1 : Int) < 128) = true := by simpa using q
        go_enter Tryd.func76, Tryd.ntmps76
        go_wp2
        go_region
        go_wp2
        go_ret
        exact ⟨rfl, ⟨rfl, rfl, rfl, by simp, fun k hk => alloc_old w _ k hk⟩⟩
      · have t1 : decide ((b1 : Int) < 128) = false := by simp; omega
        have t2 : decide (143 < (b1 : Int)) = false := by simp; omega
        go_enter Tryd.func76, Tryd.ntmps76
        go_wp2
        go_region
        go_wp2
        go_ret
        exact ⟨rfl, ⟨rfl, rfl, rfl, by simp, fun k hk => alloc_old w _ k hk⟩⟩
      · have t1 : decide ((b1 : Int) < 128) = false := by simp; omega
        have t2 : decide (143 < (b1 : Int)) = true := by simp; omega
        go_enter Tryd.func76, Tryd.ntmps76
        go_wp2
        go_region
        go_wp2
        go_ret
        exact ⟨rfl, ⟨rfl, rfl, rfl, by simp, fun k hk => alloc_old w _ k hk⟩⟩
    · clear hb2 e2 e3
      go_enter Tryd.func76, Tryd.ntmps76
      go_wp2
      go_ret
      exact ⟨rfl, Below.refl _ _⟩
end Go.Proofs.YtldcoaigecnpfaaDoor
namespace Go.Proofs.YtldcoaigecnpfaaDoor
open Go.RowKit
set_option maxRecDepth 100000 in
set_option maxHeartbeats 4000000 in
theorem fullRune3 (l : List UInt8) (g o cap : Nat) (w : World) (hT : Lib.Utf8Tabs 3 4 w) (hb : BytesAt w g o l) (h0 : 128 ≤ natL l 0) (h3 : l.length = 3) (h34 : natL l 1 = 34) :
    Calls Tryd.prog 76 #[.slice (some ⟨g, o, none⟩) l.length cap] w fun e w' => e = .returned (.bool true) ∧ Below w.heap.size w w' := by
  have hlt := natL_lt l 0
  have c0 := hb 0 (by omega)
  rw [Nat.add_zero, natL_at] at c0
  have hf := hT.1 (natL l 0) hlt
  have hacc := hT.2
  have hx : Lib.firstT (natL l 0) = 241 ∨ Lib.firstT (natL l 0) = 2 ∨ Lib.firstT (natL l 0) = 19 ∨ Lib.firstT (natL l 0) = 3 ∨ Lib.firstT (natL l 0) = 35 ∨ Lib.firstT (natL l 0) = 52 ∨ Lib.firstT (natL l 0) = 4 ∨ Lib.firstT (natL l 0) = 68 := by
    have := Lib.firstT_cases (natL l 0)
    rcases this with q | q
    · exfalso
      unfold Lib.firstT at q
      (repeat' split at q) <;> omega
    · exact q
  have hbw : g < w.heap.size := World.block_lt_of_cell? _ _ c0
  have c1 := hb 1 (by omega)
  rw [natL_at] at c1
  have l1 := natL_lt l 1
  have ha0 := hacc 0 (by decide)
  have ha1 := hacc 1 (by decide)
  have ha2 := hacc 2 (by decide)
  have ha3 := hacc 3 (by decide)
  have ha4 := hacc 4 (by decide)
  simp only [Lib.accLo, Lib.accHi, Nat.reduceMul, Nat.reduceAdd, Nat.reduceEqDiff, if_true, if_false] at ha0 ha1 ha2 ha3 ha4
  clear hT hb hacc
  generalize Lib.firstT (natL l 0) = x at *
  generalize natL l 0 = b0 at *
  generalize natL l 1 = b1 at *
  generalize l.length = n at *
  have c0' : w.cell? ⟨g, o, none⟩ = some (.int .u8 b0) := c0
  clear c0
  subst h3 h34
  have c1' : w.cell? ⟨g, o + 1, none⟩ = some (.int .u8 34) := c1
  clear c1
  rcases hx with rfl | rfl | rfl | rfl | rfl | rfl | rfl | rfl
  · have hf' : w.cell? ⟨3, b0, none⟩ = some (.int .u8 241) := hf
    clear hf
    clear ha0 ha1 ha2 ha3 ha4
    go_enter Tryd.func76, Tryd.ntmps76
    go_wp2
    go_ret
    exact ⟨rfl, Below.refl _ _⟩
  · have hf' : w.cell? ⟨3, b0, none⟩ = some (.int .u8 2) := hf
    clear hf
    clear ha0 ha1 ha2 ha3 ha4
    go_enter Tryd.func76, Tryd.ntmps76
    go_wp2
    go_ret
    exact ⟨rfl, Below.refl _ _⟩
  · have hf' : w.cell? ⟨3, b0, none⟩ = some (.int .u8 19) := hf
    clear hf
    clear ha0 ha1 ha2 ha3 ha4
    go_enter Tryd.func76, Tryd.ntmps76
    go_wp2
    go_ret
    exact ⟨rfl, Below.refl _ _⟩
  · have hf' : w.cell? ⟨3, b0, none⟩ = some (.int .u8 3) := hf
    clear hf
    clear ha0 ha1 ha2 ha3 ha4
    go_enter Tryd.func76, Tryd.ntmps76
    go_wp2
    go_ret
    exact ⟨rfl, Below.refl _ _⟩
  · have hf' : w.cell? ⟨3, b0, none⟩ = some (.int .u8 35) := hf
    clear hf
    clear ha0 ha1 ha2 ha3 ha4
    go_enter Tryd.func76, Tryd.ntmps76
    go_wp2
    go_ret
    exact ⟨rfl, Below.refl _ _⟩
  · have hf' : w.cell? ⟨3, b0, none⟩ = some (.int .u8 52) := hf
    clear hf
    have hA : w.cell? ⟨4, 6, none⟩ = some (.int .u8 144) := ha3.1
    have hA2 : w.cell? ⟨4, 7, none⟩ = some (.int .u8 191) := ha3.2
    clear ha0 ha1 ha2 ha3 ha4
    go_enter Tryd.func76, Tryd.ntmps76
    go_wp2
    go_region
    go_wp2
    go_ret
    exact ⟨rfl, ⟨rfl, rfl, rfl, by simp, fun k hk => alloc_old w _ k hk⟩⟩
  · have hf' : w.cell? ⟨3, b0, none⟩ = some (.int .u8 4) := hf
    clear hf
    have hA : w.cell? ⟨4, 0, none⟩ = some (.int .u8 128) := ha0.1
    have hA2 : w.cell? ⟨4, 1, none⟩ = some (.int .u8 191) := ha0.2
    clear ha0 ha1 ha2 ha3 ha4
    go_enter Tryd.func76, Tryd.ntmps76
    go_wp2
    go_region
    go_wp2
    go_ret
    exact ⟨rfl, ⟨rfl, rfl, rfl, by simp, fun k hk => alloc_old w _ k hk⟩⟩
  · have hf' : w.cell? ⟨3, b0, none⟩ = some (.int .u8 68) := hf
    clear hf
    have hA : w.cell? ⟨4, 8, none⟩ = some (.int .u8 128) := ha4.1
    have hA2 : w.cell? ⟨4, 9, none⟩ = some (.int .u8 143) := ha4.2
    clear ha0 ha1 ha2 ha3 ha4
    go_enter Tryd.func76, Tryd.ntmps76
    go_wp2
    go_region
    go_wp2
    go_ret
    exact ⟨rfl, ⟨rfl, rfl, rfl, by simp, fun k hk => alloc_old w _ k hk⟩⟩
/-- Where a quotation mark stands among the last bytes. -/
theorem fullRuneQ (l : List UInt8) (g o cap : Nat) (w : World) (hT : Lib.Utf8Tabs 3 4 w) (hb : BytesAt w g o l) (h0 : 128 ≤ natL l 0) (h2 : 2 ≤ l.length) (hm : l.length ≤ 140737488355328)
    (e2 : l.length = 2 → natL l 1 = 34) (e3 : l.length = 3 → natL l 1 = 34 ∨ natL l 2 = 34) :
    Calls Tryd.prog 76 #[.slice (some ⟨g, o, none⟩) l.length cap] w fun e w' => e = .returned (.bool true) ∧ Below w.heap.size w w' := by
  by_cases h3 : l.length = 3
  · rcases e3 h3 with q | q
    · exact fullRune3 l g o cap w hT hb h0 h3 q
    · exact fullRune l g o cap w hT hb h0 h2 hm e2 (fun _ => q)
  · exact fullRune l g o cap w hT hb h0 h2 hm e2 (fun q => absurd q h3)
end Go.Proofs.YtldcoaigecnpfaaDoor
