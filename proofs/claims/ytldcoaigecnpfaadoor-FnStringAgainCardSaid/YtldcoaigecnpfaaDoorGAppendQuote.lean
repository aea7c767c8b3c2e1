/- jsonwire.AppendQuote (the text of a string behind other bytes), walked: over whatever flags. -/
import Derived.Test.YtldcoaigecnpfaaDoorGLaidEsc
import Derived.Test.YtldcoaigecnpfaaDoorGUtf16
import Derived.Deep.DeepFit
import Derived.Outline
namespace Go.Proofs.YtldcoaigecnpfaaDoor
open Go.RowKit
/-- The package-level variables that are read. -/
structure Tabs (w : World) (E : Addr) : Prop where
  u8 : Lib.Utf8Tabs 3 4 w
  esc : EscAt w
  inv : w.cell? ⟨1, 0, none⟩ = some (.iface 137 (.pointer (some E)))
/-- More than all their blocks. -/
def GB : Nat := 5
theorem Tabs.same {w w' : World} {E : Addr} (h : Tabs w E) (hs : ∀ k, k < GB → w'.heap[k]? = w.heap[k]?) : Tabs w' E :=
  ⟨⟨fun c hc => (World.cell?_of_block (a := ⟨3, c, none⟩) (hs 3 (by decide))).trans (h.u8.1 c hc), fun i hi => ⟨(World.cell?_of_block (a := ⟨4, 2 * i, none⟩) (hs 4 (by decide))).trans (h.u8.2 i hi).1, (World.cell?_of_block (a := ⟨4, 2 * i + 1, none⟩) (hs 4 (by decide))).trans (h.u8.2 i hi).2⟩⟩,
   fun c hc => (World.cell?_of_block (a := ⟨0, c, none⟩) (hs 0 (by decide))).trans (h.esc c hc),
   (World.cell?_of_block (a := ⟨1, 0, none⟩) (hs 1 (by decide))).trans h.inv⟩
theorem Tabs.fr {w w' : World} {E : Addr} {base : Nat} {G : Option (Nat × Nat)} (h : Tabs w E) (f : Fr base G w w') (hb : GB ≤ base) (hG : ∀ g o, G = some (g, o) → GB ≤ g) : Tabs w' E :=
  h.same fun k hk => f.block k (by omega) fun o e => by have := hG k o e; omega
theorem Tabs.below {w w' : World} {E : Addr} {n : Nat} (h : Tabs w E) (hb : Below n w w') (hn : GB ≤ n) : Tabs w' E := h.same fun k hk => hb.block k (by omega)
theorem Tabs.size {w : World} {E : Addr} (h : Tabs w E) : GB ≤ w.heap.size := by
  have h4 := (h.u8.2 0 (by omega)).1
  unfold World.cell? at h4
  rcases Nat.lt_or_ge 4 w.heap.size with h5 | h5
  · show 5 ≤ _; omega
  · rw [Array.getElem?_eq_none (by show w.heap.size ≤ 4; omega)] at h4; cases h4
/-- Whether a flag is set. -/
def flagB (v m : Int) : Bool := decide (0 < bits BinOp.and IntKind.u64 v m)
def GetPost (r : Bool) (w : World) (e : Ending) (w' : World) : Prop := e = .returned (.bool r) ∧ Below w.heap.size w w'
theorem getFlag (p v m : Int) (w : World) : Calls Tryd.prog 52 #[.agg #[.int .u64 p, .int .u64 v], .int .u64 m] w (GetPost (flagB v m) w) := by
  have h : Hid (flagB v m = decide (0 < bits BinOp.and IntKind.u64 v m)) := rfl
  generalize flagB v m = r at h ⊢
  go_enter Tryd.func52, Tryd.ntmps52
  go_wp2
  go_ret
  exact ⟨ret_bool h.out.symm, (Below.refl _ _).alloc (Nat.le_refl _) _⟩
set_option maxRecDepth 100000 in
set_option maxHeartbeats 2000000 in
theorem escUni (x : Nat) (hx : x = 8232 ∨ x = 8233) (base : Nat) (G : Option (Nat × Nat)) (v : Value) (l : List UInt8) (w : World) (hB : Buf w base G v l) (hsz : l.length + 6 ≤ 140737488355328) (hbase : base ≤ w.heap.size) (hG : ∀ g o, G = some (g, o) → g < base) :
    Calls Tryd.prog 55 #[v, .int .i32 x] w (EscPost base G (l ++ u4 x) w) := by
  have h16 := esc16 x (by omega) base G v l w hB hsz hbase hG
  have H16 := Lib.hid h16
  clear h16 hB hG
  rcases hx with rfl | rfl
  · simp only [show ((8232 : Nat) : Int) = 8232 from rfl] at H16 ⊢
    have e0 : ∀ w0, Calls Tryd.prog 41 #[.int .i32 8232] w0 fun e w' => e = .returned (.tuple #[.int .i32 65533, .int .i32 65533]) ∧ w0 = w' := fun w0 => by
      go_enter Tryd.func41, Tryd.ntmps41
      go_wp2
      go_ret2
      exact ⟨rfl, rfl⟩
    have E0 := Lib.hid e0
    clear e0
    go_enter Tryd.func55, Tryd.ntmps55
    go_wp2_with fail
    refine (E0.out _).mono ?_
    rintro e w' ⟨rfl, rfl⟩
    go_wp2_with fail
    refine H16.out.mono ?_
    rintro e w' ⟨v2, rfl, hb2, hf2⟩
    clear H16
    go_wp2
    go_ret
    exact ⟨v2, rfl, hb2, hf2⟩
  · simp only [show ((8233 : Nat) : Int) = 8233 from rfl] at H16 ⊢
    have e0 : ∀ w0, Calls Tryd.prog 41 #[.int .i32 8233] w0 fun e w' => e = .returned (.tuple #[.int .i32 65533, .int .i32 65533]) ∧ w0 = w' := fun w0 => by
      go_enter Tryd.func41, Tryd.ntmps41
      go_wp2
      go_ret2
      exact ⟨rfl, rfl⟩
    have E0 := Lib.hid e0
    clear e0
    go_enter Tryd.func55, Tryd.ntmps55
    go_wp2_with fail
    refine (E0.out _).mono ?_
    rintro e w' ⟨rfl, rfl⟩
    go_wp2_with fail
    refine H16.out.mono ?_
    rintro e w' ⟨v2, rfl, hb2, hf2⟩
    clear H16
    go_wp2
    go_ret
    exact ⟨v2, rfl, hb2, hf2⟩
def errOf (bad : Bool) (E : Addr) : Value := if bad then .iface 137 (.pointer (some E)) else .nilIface
def QuotePost (base : Nat) (G : Option (Nat × Nat)) (L : List UInt8) (err : Value) (w : World) (e : Ending) (w' : World) : Prop := ∃ v', e = .returned (.tuple #[v', err]) ∧ Buf w' base G v' L ∧ Fr base G w w'
/-- What a buffer becomes in a world that keeps its block. -/
theorem Buf.belowAll {w w' : World} {base : Nat} {G : Option (Nat × Nat)} {v : Value} {l : List UInt8} (h : Buf w base G v l) (hb : Below w.heap.size w w') : Buf w' base G v l := h.below hb h.block
theorem Fr.of_belowAll {base : Nat} {G : Option (Nat × Nat)} {w w' : World} (h : Below w.heap.size w w') (hbase : base ≤ w.heap.size) (hG : ∀ g o, G = some (g, o) → g < base) : Fr base G w w' := Fr.of_below (h.mono hbase) hG
theorem isInv (r n : Int) (b : Bool) (hb : b = (decide (r = 65533) && decide (n = 1))) (w : World) : Calls Tryd.prog 43 #[.int .i32 r, .int .i64 n] w fun e w' => e = .returned (.bool b) ∧ w = w' := by
  by_cases h1 : r = 65533
  · by_cases h2 : n = 1
    · subst h1 h2 hb
      go_enter Tryd.func43, Tryd.ntmps43
      go_wp2
      go_ret
      exact ⟨rfl, rfl⟩
    · have e2 : (n == 1) = false := by simpa using h2
      have hb' : b = false := by rw [hb]; simp [h2]
      subst h1 hb'
      clear hb h2
      go_enter Tryd.func43, Tryd.ntmps43
      go_wp2
      go_ret
      exact ⟨rfl, rfl⟩
  · have e1 : (r == 65533) = false := by simpa using h1
    have hb' : b = false := by rw [hb]; simp [h1]
    subst hb'
    clear hb h1
    go_enter Tryd.func43, Tryd.ntmps43
    go_wp2
    go_ret
    exact ⟨rfl, rfl⟩
end Go.Proofs.YtldcoaigecnpfaaDoor
