/- Valid and impl.OldValid (encoding/json's word on a whole text), walked. -/
import Derived.Test.YtklncgmfbflooaaCheckValid
import Derived.Test.YtklncgmfbflooaaClose
import Derived.Defers
import Derived.Recover
namespace Go.Proofs.Ytklncgmfbflooaa
open Go.RowKit
theorem freeD (S B : Nat) (s : Cfg) (u : FrameMode) (w : World) (h : ScAt w S B s) :
    CallsD Try.prog 14 #[.pointer (some ⟨S, 0, none⟩)] u w fun e u' w' => u' = u ∧ (e = .returned (.tuple #[]) ∧ Gr2 B w w' S S) := by
  obtain ⟨v, c2, o2⟩ := h.c2
  obtain ⟨p, c, rfl⟩ := ownsRow_form o2
  have f2 := h.fz 2
  clear h o2
  generalize s.st.length = n at c2
  go_enter_d Try.func14, Try.ntmps14
  go_wp2
  all_goals go_end0
  · exact ⟨rfl, (Gr2.refl B _ S S).set _ (q := ⟨S, 2, none⟩) (.inl rfl)⟩
  · exact ⟨rfl, Gr2.refl B _ S S⟩
def VdPost (b : Bool) (w : World) (e : Ending) (w' : World) : Prop := e = .returned (.bool b) ∧ Below w.heap.size w w'
set_option maxRecDepth 100000 in
theorem validS (g cap : Nat) (l : List UInt8) (w : World) (hl : l.length < 10000) (hb : BytesAt w g 0 l) (hg : g < w.heap.size) :
    Calls Try.prog 9 #[.slice (some ⟨g, 0, none⟩) l.length cap] w (VdPost (takenB l) w) := by
  have HNS := Lib.hid (newScannerS w)
  have HCV : Hid (∀ w1, ScAt w1 w.heap.size (w.heap.size + 1) c0C → Below w.heap.size w w1 → Calls Try.prog 15 #[.slice (some ⟨g, 0, none⟩) l.length cap, .pointer (some ⟨w.heap.size, 0, none⟩)] w1 (CvPost (takenB l) w.heap.size (w.heap.size + 1) w1)) :=
    Lib.hid fun w1 a b2 => checkValidS w.heap.size (w.heap.size + 1) g cap l w1 (a.raw rfl) hl (hb.below b2 hg) (by omega) (by omega)
  generalize takenB l = b at HCV ⊢
  generalize l.length = n at HCV ⊢
  clear hb hl
  have hmf : ∀ (fn : Fn) (first cap : Array Value) (w : World), (Instr.makeFunc fn first cap).run Try.prog w = .ok (.func fn first cap) w := fun _ _ _ _ => rfl
  go_enter_defers Try.func9, Try.ntmps9
  go_wp2_with fail
  refine HNS.out.mono ?_
  rintro e w1 ⟨rfl, h1, b1⟩
  have H1 := Lib.hid h1
  have B1 := Lib.hid b1
  clear h1 b1 HNS
  go_wp2_with fail
  refine (HCV.out w1 H1.out B1.out).mono ?_
  rintro e w2 ⟨v, s', rfl, h2, g2, hv1, hv2⟩
  have H2 := Lib.hid h2
  have HB : Hid (∀ w', Gr2 (w.heap.size + 1) w2 w' w.heap.size w.heap.size → Below w.heap.size w w') := Lib.hid fun w' g3 => by
    have g4 := g2.trans g3
    exact ⟨g4.os.trans B1.out.os, g4.tape.trans B1.out.tape, g4.output.trans B1.out.output, Nat.le_trans B1.out.size g4.size, fun i hi => (g4.block i (by omega) (by omega) (by omega)).trans (B1.out.block i hi)⟩
  clear h2 g2 HCV
  cases b
  · obtain ⟨p, rfl, _⟩ := hv2 rfl
    clear hv1 hv2
    go_wp2
    refine leaves_cons (f := 14) (args := #[.pointer (some ⟨w.heap.size, 0, none⟩)]) (by simp) (by simp [go_sem]) ?_
    refine (freeD w.heap.size (w.heap.size + 1) s' _ _ H2.out).mono ?_
    rintro e u' w3 ⟨rfl, rfl, g3⟩
    have := HB.out w3 g3
    simp [Leaves, settle, results, Try.results9, go_sem]
    exact ⟨rfl, this⟩
  · obtain rfl := hv1 rfl
    clear hv1 hv2
    go_wp2
    refine leaves_cons (f := 14) (args := #[.pointer (some ⟨w.heap.size, 0, none⟩)]) (by simp) (by simp [go_sem]) ?_
    refine (freeD w.heap.size (w.heap.size + 1) s' _ _ H2.out).mono ?_
    rintro e u' w3 ⟨rfl, rfl, g3⟩
    have := HB.out w3 g3
    simp [Leaves, settle, results, Try.results9, go_sem]
    exact ⟨rfl, this⟩
theorem oldValid (s : ByteArray) (w : World) (hs : s.size < 10000) :
    Calls Try.prog 7 #[.string s] w (VdPost (takenB s.data.toList) w) := by
  have hcv := run_conv s
  have hlt : w.heap.size < (convWorld w s).heap.size := by rw [conv_size]; omega
  have hc := validS w.heap.size (convCap w s) s.data.toList (convWorld w s) (by rw [size_list]; exact hs) (conv_bytes s w) hlt
  rw [size_list] at hc
  generalize takenB s.data.toList = r at hc ⊢
  have HC := Lib.hid hc
  clear hc
  go_enter Try.func7, Try.ntmps7
  go_wp2_with fail
  refine HC.out.mono ?_
  rintro e w' ⟨rfl, hb⟩
  have HB := Lib.hid hb
  clear hcv hb
  go_wp2
  go_ret
  exact ⟨rfl, (conv_below s w).trans (HB.out.mono (Nat.le_of_lt hlt))⟩
end Go.Proofs.Ytklncgmfbflooaa
