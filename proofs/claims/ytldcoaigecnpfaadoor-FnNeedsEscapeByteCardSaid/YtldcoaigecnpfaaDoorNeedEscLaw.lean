/- The statement FnNeedsEscapeByte, walked: it returns true, and leaves all that lay below as it was. -/
import Derived.Test.YtldcoaigecnpfaaDoorNeedEsc
import Derived.Test.YtldcoaigecnpfaaDoorClose
import Derived.WalkSpells
import Derived.Laws.BytesArg
namespace Go.Proofs.YtldcoaigecnpfaaDoor
open Go.RowKit
/-- One byte as a text. -/
def oneB (c : Nat) : ByteArray := ⟨#[UInt8.ofNat c]⟩
theorem conv_byte (w : World) (c : Nat) (v : TypeId) : (convert 23 9 (.slice (some ⟨w.heap.size, 0, none⟩) 1 1)).run Tryd.prog (w.alloc (Obj.cells #[.int .u8 (c : Int)] v)) = .ok (.string (oneB c)) (w.alloc (Obj.cells #[.int .u8 (c : Int)] v)) := by
  have := run_convert_bytes_arg (P := Tryd.prog) (w.alloc (Obj.cells #[.int .u8 (c : Int)] v)) 23 5 Tryd.underlying23 Tryd.underlying5 w.heap.size 0 1 1 [(c : Int)] rfl (fun i hi => by
    match i, hi with
    | 0, _ => simp) 9 Tryd.underlying9
  simpa [strOfNums, oneB] using this
theorem byte_wrap_all : ∀ c : Fin 256, IntKind.u8.wrap (c.val : Int) = (c.val : Int) := by decide +kernel
set_option maxRecDepth 100000 in
theorem needs (c : Nat) (h : c < 256) (w : World) (hT : Lib.Utf8Tabs 3 4 w) (hE : EscAt w) (hgl : 5 ≤ w.heap.size) :
    Calls Tryd.prog 11 #[.string (oneB c)] w (NeedPost (needB c) w) := by
  have hb := conv_below (oneB c) w
  have hcv := run_conv (oneB c) w
  have hs : (oneB c).size = 1 := rfl
  rw [hs] at hcv
  have hT' : Lib.Utf8Tabs 3 4 (convWorld w (oneB c)) :=
    ⟨fun x hx => (hb.cell (p := ⟨3, x, none⟩) (by show 3 < _; omega)).trans (hT.1 x hx), fun i hi => ⟨(hb.cell (p := ⟨4, 2 * i, none⟩) (by show 4 < _; omega)).trans (hT.2 i hi).1, (hb.cell (p := ⟨4, 2 * i + 1, none⟩) (by show 4 < _; omega)).trans (hT.2 i hi).2⟩⟩
  have hE' : EscAt (convWorld w (oneB c)) := fun x hx => (hb.cell (p := ⟨0, x, none⟩) (by show 0 < _; omega)).trans (hE x hx)
  have hcell : (convWorld w (oneB c)).cell? ⟨w.heap.size, 0, none⟩ = some (.int .u8 c) := by
    have h0 := conv_bytes (oneB c) w 0 (by show 0 < 1; omega)
    have e0 : (oneB c).data.toList = [UInt8.ofNat c] := rfl
    rw [e0, at_one_all ⟨c, h⟩] at h0
    exact h0
  have hc := need_one c h w.heap.size (convCap w (oneB c)) (convWorld w (oneB c)) hT' hE' hcell
  have HB := Lib.hid hb
  generalize convWorld w (oneB c) = W at hc hcv HB
  generalize convCap w (oneB c) = cap at hc hcv
  generalize needB c = r at hc ⊢
  generalize oneB c = t at hcv ⊢
  have HC := Lib.hid hc
  clear hT' hE' hcell hb hT hE hc hs
  go_enter Tryd.func11, Tryd.ntmps11
  go_wp2_with fail
  refine HC.out.mono ?_
  rintro e w' ⟨rfl, hb'⟩
  have HB' := Lib.hid hb'
  clear hb' hcv
  go_wp2
  go_ret
  exact ⟨rfl, HB.out.trans (HB'.out.mono HB.out.size)⟩
set_option maxRecDepth 100000 in
set_option maxHeartbeats 2000000 in
theorem law_in (c : Nat) (h : c < 256) (w : World) (hT : Lib.Utf8Tabs 3 4 w) (hE : EscAt w) (hgl : 5 ≤ w.heap.size) :
    Calls Tryd.prog 3 #[.int .i64 c] w (NeedPost true w) := by
  have hcv := conv_byte w c 5
  have hb : Below w.heap.size w (w.alloc (Obj.cells #[.int .u8 (c : Int)] 5)) := (Below.refl _ _).alloc (Nat.le_refl _) _
  have hT' : Lib.Utf8Tabs 3 4 (w.alloc (Obj.cells #[.int .u8 (c : Int)] 5)) :=
    ⟨fun x hx => (hb.cell (p := ⟨3, x, none⟩) (by show 3 < _; omega)).trans (hT.1 x hx), fun i hi => ⟨(hb.cell (p := ⟨4, 2 * i, none⟩) (by show 4 < _; omega)).trans (hT.2 i hi).1, (hb.cell (p := ⟨4, 2 * i + 1, none⟩) (by show 4 < _; omega)).trans (hT.2 i hi).2⟩⟩
  have hE' : EscAt (w.alloc (Obj.cells #[.int .u8 (c : Int)] 5)) := fun x hx => (hb.cell (p := ⟨0, x, none⟩) (by show 0 < _; omega)).trans (hE x hx)
  have hs := needs c h _ hT' hE' (by simp; omega)
  have hwr := byte_wrap_all ⟨c, h⟩
  simp only at hwr
  have hlo : ¬ (c : Int) < 0 := by omega
  have hhi : ¬ (255 : Int) < (c : Int) := by omega
  generalize hn : needB c = r at hs
  have hn' : r = decide (c < 32 ∨ 128 ≤ c ∨ c = 34 ∨ c = 92 ∨ c = 60 ∨ c = 62 ∨ c = 38) := hn.symm
  generalize oneB c = t at hcv hs
  have HS := Lib.hid hs
  clear hs hT' hE' hT hE hb hn
  by_cases k1 : c < 32
  · obtain rfl : r = true := by rw [hn']; simp; omega
    have k1' : (c : Int) < 32 := by omega
    clear hn'
    go_enter Tryd.func3, Tryd.ntmps3
    go_wp2_with fail
    refine HS.out.mono ?_
    rintro e w' ⟨rfl, hb'⟩
    have HB' := Lib.hid hb'
    clear hb' hcv
    go_wp2
    go_ret
    exact ⟨rfl, ((Below.refl _ _).alloc (Nat.le_refl _) _).trans (HB'.out.mono (by simp))⟩
  by_cases k2 : 128 ≤ c
  · obtain rfl : r = true := by rw [hn']; simp; omega
    have k1' : ¬ (c : Int) < 32 := by omega
    have k2' : (128 : Int) ≤ (c : Int) := by omega
    clear hn'
    go_enter Tryd.func3, Tryd.ntmps3
    go_wp2_with fail
    refine HS.out.mono ?_
    rintro e w' ⟨rfl, hb'⟩
    have HB' := Lib.hid hb'
    clear hb' hcv
    go_wp2
    go_ret
    exact ⟨rfl, ((Below.refl _ _).alloc (Nat.le_refl _) _).trans (HB'.out.mono (by simp))⟩
  by_cases k3 : c = 34 ∨ c = 92 ∨ c = 60 ∨ c = 62 ∨ c = 38
  · obtain rfl : r = true := by rw [hn']; simp; omega
    clear hn' k1 k2 hlo hhi
    rcases k3 with rfl | rfl | rfl | rfl | rfl
    all_goals
      simp only [show ((34 : Nat) : Int) = 34 from rfl, show ((92 : Nat) : Int) = 92 from rfl, show ((60 : Nat) : Int) = 60 from rfl, show ((62 : Nat) : Int) = 62 from rfl, show ((38 : Nat) : Int) = 38 from rfl] at hcv HS hwr ⊢
      go_enter Tryd.func3, Tryd.ntmps3
      go_wp2_with fail
      refine HS.out.mono ?_
      rintro e w' ⟨rfl, hb'⟩
      have HB' := Lib.hid hb'
      clear hb' hcv
      go_wp2
      go_ret
      exact ⟨rfl, ((Below.refl _ _).alloc (Nat.le_refl _) _).trans (HB'.out.mono (by simp))⟩
  · obtain rfl : r = false := by rw [hn']; simp; omega
    have k1' : ¬ (c : Int) < 32 := by omega
    have k2' : ¬ (128 : Int) ≤ (c : Int) := by omega
    have e1 : ((c : Int) == 34) = false := by simp; omega
    have e2 : ((c : Int) == 92) = false := by simp; omega
    have e3 : ((c : Int) == 60) = false := by simp; omega
    have e4 : ((c : Int) == 62) = false := by simp; omega
    have e5 : ((c : Int) == 38) = false := by simp; omega
    clear hn' k1 k2 k3
    go_enter Tryd.func3, Tryd.ntmps3
    go_wp2_with fail
    refine HS.out.mono ?_
    rintro e w' ⟨rfl, hb'⟩
    have HB' := Lib.hid hb'
    clear hb' hcv
    go_wp2
    go_ret
    exact ⟨rfl, ((Below.refl _ _).alloc (Nat.le_refl _) _).trans (HB'.out.mono (by simp))⟩
set_option maxRecDepth 100000 in
theorem fnNeedsEscapeByte_any (c : Int) (w : World) (_ : (Lit.int .i64 c).wf = true) (hT : Lib.Utf8Tabs 3 4 w) (hE : EscAt w) :
    Calls Tryd.prog 3 #[.int .i64 c] w fun e w' => e = .returned (.bool true) ∧ Below w.heap.size w w' := by
  by_cases h : 0 ≤ c ∧ c < 256
  · obtain ⟨n, rfl⟩ : ∃ n : Nat, c = n := ⟨c.toNat, by omega⟩
    have hl : 5 ≤ w.heap.size := by
      have := hT.2 0 (by omega)
      have h4 := this.1
      unfold World.cell? at h4
      rcases Nat.lt_or_ge 4 w.heap.size with h5 | h5
      · omega
      · rw [Array.getElem?_eq_none (by show w.heap.size ≤ 4; omega)] at h4; cases h4
    exact law_in n (by omega) w hT hE hl
  · by_cases h0 : c < 0
    · clear h
      go_enter Tryd.func3, Tryd.ntmps3
      go_wp2
      go_ret
      exact ⟨rfl, Below.refl _ _⟩
    · have h1 : 255 < c := by omega
      clear h
      go_enter Tryd.func3, Tryd.ntmps3
      go_wp2
      go_ret
      exact ⟨rfl, Below.refl _ _⟩
end Go.Proofs.YtldcoaigecnpfaaDoor
