/- bytes.Buffer: Write of no bytes, AvailableBuffer without room; appending an empty text: walked. -/
import Derived.Test.YtklncgmfbflooaaDoorHtmlBuf
import Derived.Test.YtklncgmfbflooaaDoorWideTight
import Derived.Defers
import Derived.Recover
namespace Go.Proofs.YtklncgmfbflooaaDoor
open Go.RowKit
/-- No bytes are copied. -/
theorem copy_none (a2 : Option Addr) (c2 : Nat) (a : Addr) (d : Nat) (W : World) :
    (Builtin.copy_ #[56, 56] 3 #[.slice (some a) 0 d, .slice a2 0 c2]).run Tryd.prog W = .ok (goInt 0) W := by
  obtain ⟨i, hi, hz, hs, hby⟩ := info_parts infoU8
  have hu := Tryd.underlying56
  cases a2 <;> simp [Builtin.copy_, run_underlying hu, Builtin.lenOf, Builtin.firstCells, sizeOf, typeInfo, hi, loadCells, loadCellsFrom, storeCells]
def W0Post (p : Nat) (v : Value) (w : World) (e : Ending) (w' : World) : Prop :=
  (∃ m, e = .returned (.tuple #[.int .i64 m, .nilIface])) ∧ w' = (w.setCell ⟨p, 2, none⟩ (.int .i8 0)).setCell ⟨p, 0, none⟩ v
set_option maxHeartbeats 1000000 in
theorem write0 (p g o l c : Nat) (a2 : Option Addr) (c2 : Nat) (w : World) (h : BHead w p (.slice (some ⟨g, o, none⟩) l c)) (hlc : l ≤ c) (hc : c ≤ maxLen) (hl : l ≤ 100000000) :
    Calls Tryd.prog 44 #[.pointer (some ⟨p, 0, none⟩), .slice a2 0 c2] w (W0Post p (.slice (some ⟨g, o, none⟩) l c) w) := by
  obtain ⟨r, hc2⟩ := h.c2
  have hfz := h.fz
  obtain ⟨W1, hW1⟩ : ∃ W1, W1 = w.setCell ⟨p, 2, none⟩ (.int .i8 0) := ⟨_, rfl⟩
  have h1 : BHead W1 p (.slice (some ⟨g, o, none⟩) l c) := by rw [hW1]; exact h.set2 0
  have hd0 := (h1.set (.slice (some ⟨g, o, none⟩) l c)).c0
  have HT : Hid (Calls Tryd.prog 64 #[.pointer (some ⟨p, 0, none⟩), .int .i64 0] W1 (fun e w' => e = .returned (.tuple #[.int .i64 l, .bool true]) ∧ w' = W1.setCell ⟨p, 0, none⟩ (.slice (some ⟨g, o, none⟩) l c))) :=
    Lib.hid (tryGrow true p g o l c 0 W1 h1 hlc hc (by omega) (by omega) (by simp; omega))
  have hcp := copy_none a2 c2
  have hle : (l : Int) ≤ (c : Int) := by omega
  clear h h1 hc hl
  subst hW1
  by_cases hcl : c = l
  · subst hcl
    clear hlc hle
    go_enter Tryd.func44, Tryd.ntmps44
    go_wp2_with fail
    refine HT.out.mono ?_
    rintro e w2 ⟨rfl, rfl⟩
    go_wp2
    go_ret2
    exact ⟨⟨_, rfl⟩, rfl⟩
  · go_enter Tryd.func44, Tryd.ntmps44
    go_wp2_with fail
    refine HT.out.mono ?_
    rintro e w2 ⟨rfl, rfl⟩
    go_wp2
    go_ret2
    exact ⟨⟨_, rfl⟩, rfl⟩
set_option maxHeartbeats 1000000 in
theorem avail0 (p g o l : Nat) (w : World) (h : BHead w p (.slice (some ⟨g, o, none⟩) l l)) :
    Calls Tryd.prog 46 #[.pointer (some ⟨p, 0, none⟩)] w (AvPost (.slice (some ⟨g, o, none⟩) 0 0) w) := by
  have c0 := h.c0
  clear h
  go_enter Tryd.func46, Tryd.ntmps46
  go_wp2
  go_quiet (fail)
  go_wp2
  go_ret
  exact ⟨rfl, _, rfl⟩
/-- What Compact and Indent answer for an empty text. -/
def A0Post (v : Value) (w : World) (e : Ending) (w' : World) : Prop :=
  ∃ p, e = .returned (.tuple #[v, .iface 94 (.pointer (some ⟨p, 0, none⟩))]) ∧ SynAt w' p ∧ Below w.heap.size w w'
theorem eof0 (w w1 : World) (h1 : ScAt w1 w.heap.size (w.heap.size + 1) c0C) (b1 : Below w.heap.size w w1) :
    Calls Tryd.prog 71 #[.pointer (some ⟨w.heap.size, 0, none⟩)] w1 (fun e w2 => ∃ p s', e = .returned (.int .i64 11) ∧ w2.cell? ⟨w.heap.size, 3, none⟩ = some (.iface 94 (.pointer (some ⟨p, 0, none⟩))) ∧ ScAt w2 w.heap.size (w.heap.size + 1) s' ∧ SynAt w2 p ∧ p ≠ w.heap.size ∧ Below w.heap.size w w2) := by
  refine (eofS w.heap.size (w.heap.size + 1) 0 c0C w1 h1 ⟨fun x hx => (by simp [c0C] at hx), Nat.zero_le _, (fun z => by cases z), (fun z => by cases z)⟩ (by omega)).mono ?_
  rintro e w2 ⟨s', rfl, h2, g2, her⟩
  obtain ⟨x, c3, _, e2⟩ := h2.c3
  obtain ⟨p, rfl, hp, hs⟩ := e2 (her (by decide))
  exact ⟨p, s', rfl, c3, h2, hs, by omega, g2.os.trans b1.os, g2.tape.trans b1.tape, g2.output.trans b1.output, Nat.le_trans b1.size g2.size, fun i hi => (g2.block i (by omega) (by omega) (by omega)).trans (b1.block i hi)⟩
set_option maxRecDepth 100000 in
set_option maxHeartbeats 2000000 in
theorem appendCompact0 (a : Addr) (c t tc : Nat) (w : World) :
    Calls Tryd.prog 56 #[.slice (some a) 0 c, .slice (some ⟨t, 0, none⟩) 0 tc, .bool false] w (A0Post (.slice (some a) 0 c) w) := by
  have HNS := Lib.hid (newScannerS w)
  have HE0 := Lib.hid (eof0 w)
  have hc0 : ¬ (c : Int) < 0 := by omega
  have hmf : ∀ (fn : Fn) (first cap : Array Value) (w : World), (Instr.makeFunc fn first cap).run Tryd.prog w = .ok (.func fn first cap) w := fun _ _ _ _ => rfl
  go_enter_defers Tryd.func56, Tryd.ntmps56
  go_wp2_with fail
  refine HNS.out.mono ?_
  rintro e w1 ⟨rfl, h1, b1⟩
  have HE := Lib.hid (HE0.out w1 h1 b1)
  clear h1 b1 HNS HE0
  go_wp2
  refine wp_loop_rounds 1 ?_
  rw [rounds_succ]
  go_wp2_with fail
  refine HE.out.mono ?_
  rintro e w2 ⟨p, s', rfl, c3, h2, hs, hpn, hb⟩
  have H2 := Lib.hid h2
  have P2 := Lib.hid (And.intro hpn hs)
  have B2 := Lib.hid hb
  clear HE h2 hs hpn hb
  go_wp2
  refine wp_region_noPanic ?_
  go_quiet (fail)
  refine NoPanic.normal ?_
  go_wp2
  refine leaves_cons (f := 73) (args := #[.pointer (some ⟨w.heap.size, 0, none⟩)]) (by simp) (by simp [go_sem]) ?_
  refine (freeX w.heap.size (w.heap.size + 1) s' _ _ (scDrew H2.out _)).mono ?_
  rintro e u' w3 ⟨rfl, rfl, g3, k3⟩
  have hB3 : Below w.heap.size w w3 := by
    have h := B2.out
    exact ⟨g3.os.trans h.os, g3.tape.trans h.tape, g3.output.trans h.output, Nat.le_trans h.size g3.size, fun i hi => (k3 i (by omega)).trans (h.block i hi)⟩
  have hp3 := (synDrew P2.out.2 _).same (k3 p P2.out.1)
  simp [Leaves, settle, results, Tryd.results56, go_sem]
  exact ⟨p, rfl, hp3, hB3⟩
set_option maxRecDepth 100000 in
set_option maxHeartbeats 2000000 in
theorem appendIndent0 (a : Addr) (c t tc : Nat) (pre ind : ByteArray) (w : World) :
    Calls Tryd.prog 57 #[.slice (some a) 0 c, .slice (some ⟨t, 0, none⟩) 0 tc, .string pre, .string ind] w (A0Post (.slice (some a) 0 c) w) := by
  have HNS := Lib.hid (newScannerS w)
  have HE0 := Lib.hid (eof0 w)
  have hc0 : ¬ (c : Int) < 0 := by omega
  have hmf : ∀ (fn : Fn) (first cap : Array Value) (w : World), (Instr.makeFunc fn first cap).run Tryd.prog w = .ok (.func fn first cap) w := fun _ _ _ _ => rfl
  go_enter_defers Tryd.func57, Tryd.ntmps57
  go_wp2_with fail
  refine HNS.out.mono ?_
  rintro e w1 ⟨rfl, h1, b1⟩
  have HE := Lib.hid (HE0.out w1 h1 b1)
  clear h1 b1 HNS HE0
  go_wp2
  refine wp_loop_rounds 1 ?_
  rw [rounds_succ]
  go_wp2_with fail
  refine HE.out.mono ?_
  rintro e w2 ⟨p, s', rfl, c3, h2, hs, hpn, hb⟩
  have H2 := Lib.hid h2
  have P2 := Lib.hid (And.intro hpn hs)
  have B2 := Lib.hid hb
  clear HE h2 hs hpn hb
  go_wp2
  refine wp_region_noPanic ?_
  go_quiet (fail)
  refine NoPanic.normal ?_
  go_wp2
  refine leaves_cons (f := 73) (args := #[.pointer (some ⟨w.heap.size, 0, none⟩)]) (by simp) (by simp [go_sem]) ?_
  refine (freeX w.heap.size (w.heap.size + 1) s' _ _ (scDrew H2.out _)).mono ?_
  rintro e u' w3 ⟨rfl, rfl, g3, k3⟩
  have hB3 : Below w.heap.size w w3 := by
    have h := B2.out
    exact ⟨g3.os.trans h.os, g3.tape.trans h.tape, g3.output.trans h.output, Nat.le_trans h.size g3.size, fun i hi => (k3 i (by omega)).trans (h.block i hi)⟩
  have hp3 := (synDrew P2.out.2 _).same (k3 p P2.out.1)
  simp [Leaves, settle, results, Tryd.results57, go_sem]
  exact ⟨p, rfl, hp3, hB3⟩
end Go.Proofs.YtklncgmfbflooaaDoor
