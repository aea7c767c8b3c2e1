/- NeedEscape at one byte, walked. -/
import Derived.Test.YtldcoaigecnpfaaDoorDec
import Derived.Test.YtldcoaigecnpfaaDoorLaidEsc
import Derived.WalkLawsBesides
import Derived.Lib.Hide
import Derived.Deep.DeepFit
import Derived.Outline
namespace Go.Proofs.YtldcoaigecnpfaaDoor
open Go.RowKit
theorem dec_one_all : ∀ c : Fin 256, 128 ≤ c.val → decN [UInt8.ofNat c.val] = (65533, 1) := by decide +kernel
theorem dec_one (c : Nat) (h : c < 256) (h1 : 128 ≤ c) : decN [UInt8.ofNat c] = (65533, 1) := dec_one_all ⟨c, h⟩ h1
theorem at_one_all : ∀ c : Fin 256, atL [UInt8.ofNat c.val] 0 = (c.val : Int) := by decide +kernel
def needB (c : Nat) : Bool := decide (c < 32 ∨ 128 ≤ c ∨ c = 34 ∨ c = 92 ∨ c = 60 ∨ c = 62 ∨ c = 38)
def NeedPost (r : Bool) (w : World) (e : Ending) (w' : World) : Prop := e = .returned (.bool r) ∧ Below w.heap.size w w'
set_option maxRecDepth 100000 in
theorem need_hi (c : Nat) (h : c < 256) (h1 : 128 ≤ c) (b cap : Nat) (w : World) (hT : Lib.Utf8Tabs 3 4 w) (hc : w.cell? ⟨b, 0, none⟩ = some (.int .u8 c)) :
    Calls Tryd.prog 24 #[.slice (some ⟨b, 0, none⟩) 1 cap] w (NeedPost true w) := by
  have hd := decodeRune [UInt8.ofNat c] b 0 cap w hT (fun j hj => by
    obtain rfl : j = 0 := by simp at hj; omega
    rw [at_one_all ⟨c, h⟩]; exact hc) (by simp)
  have hl : ([UInt8.ofNat c] : List UInt8).length = 1 := rfl
  rw [dec_one c h h1, hl] at hd
  simp only at hd
  clear hl
  have HD := Lib.hid hd
  have h1' : ¬ (c : Int) < 128 := by omega
  clear hd hT
  go_enter Tryd.func24, Tryd.ntmps24
  go_wp2
  refine wp_loop_rounds 2 ?_
  rw [rounds_succ]
  go_wp2_with fail
  go_fit HD.out
  rintro e w' ⟨rfl, hb⟩
  have HB := Lib.hid hb
  clear hb
  go_wp2
  go_ret
  exact ⟨rfl, HB.out⟩
set_option maxRecDepth 100000 in
theorem need_lo (c : Nat) (h1 : c < 128) (r : Bool) (hr : r = decide (escT c = 1)) (b cap : Nat) (w : World) (hE : EscAt w) (hc : w.cell? ⟨b, 0, none⟩ = some (.int .u8 c)) :
    Calls Tryd.prog 24 #[.slice (some ⟨b, 0, none⟩) 1 cap] w (NeedPost r w) := by
  have he := hE c h1
  have h1' : (c : Int) < 128 := by omega
  clear hE
  by_cases hz : escT c = 1
  · have hr' : r = true := by rw [hr]; simpa using hz
    rw [hz] at he
    subst hr'
    clear hr hz
    go_enter Tryd.func24, Tryd.ntmps24
    go_wp2
    refine wp_loop_rounds 2 ?_
    rw [rounds_succ]
    go_wp2
    go_ret
    exact ⟨rfl, Below.refl _ _⟩
  · have hr' : r = false := by rw [hr]; simpa using hz
    have hz' : escT c = 0 := by unfold escT at hz ⊢; split <;> simp_all
    rw [hz'] at he
    subst hr'
    clear hr hz hz'
    go_enter Tryd.func24, Tryd.ntmps24
    go_wp2
    refine wp_loop_rounds 2 ?_
    rw [rounds_succ]
    go_wp2
    rw [rounds_succ]
    go_wp2
    go_ret
    exact ⟨rfl, Below.refl _ _⟩
theorem need_one (c : Nat) (h : c < 256) (b cap : Nat) (w : World) (hT : Lib.Utf8Tabs 3 4 w) (hE : EscAt w) (hc : w.cell? ⟨b, 0, none⟩ = some (.int .u8 c)) :
    Calls Tryd.prog 24 #[.slice (some ⟨b, 0, none⟩) 1 cap] w (NeedPost (needB c) w) := by
  by_cases h1 : 128 ≤ c
  · have e : needB c = true := by unfold needB; simp; omega
    rw [e]; exact need_hi c h h1 b cap w hT hc
  · refine need_lo c (by omega) (needB c) ?_ b cap w hE hc
    unfold needB escT
    split <;> (simp; try omega)
end Go.Proofs.YtldcoaigecnpfaaDoor
