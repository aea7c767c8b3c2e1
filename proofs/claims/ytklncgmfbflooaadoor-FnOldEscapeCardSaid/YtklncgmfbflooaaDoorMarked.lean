/- The reference's marked with both marks, walked. -/
import Derived.Test.YtklncgmfbflooaaDoorUnitText
import Derived.Lib.Strings
namespace Go.Proofs.YtklncgmfbflooaaDoor
open Go.RowKit
/-- The escape of a character that is marked, or nothing. -/
def markL (P : List UInt8) : List UInt8 :=
  if P = [60] then u4 60 else if P = [62] then u4 62 else if P = [38] then u4 38 else if P = [226, 128, 168] then u4 8232 else if P = [226, 128, 169] then u4 8233 else []
set_option maxRecDepth 100000 in
set_option maxHeartbeats 2000000 in
theorem markedS (b : ByteArray) (w : World) : Calls Tryd.prog 28 #[.string b, .agg #[.bool true, .bool true]] w (TextPost (markL b.data.toList) w) := by
  have hbel : ∀ o : Obj, Hid (Below w.heap.size w (w.alloc o)) := fun o => (Below.refl _ _).alloc (Nat.le_refl _) _
  have hl : b.toList = b.data.toList := Lib.toList_data b
  by_cases h0 : b.toList = [60]
  · have em : markL b.data.toList = u4 60 := by unfold markL; rw [← hl]; rw [if_pos h0]
    have hu := fun W => unitText 60 (by decide) W
    rw [em]
    simp only [show ((60 : Nat) : Int) = 60 from rfl] at hu
    generalize u4 60 = E at hu ⊢
    have HU := Lib.hid hu
    clear hu
    have e0 : (b.toList == [60]) = true := beq_iff_eq.2 h0
    have hz : 0 < b.size := by rw [← size_list, ← hl, h0]; decide
    have hz2 : (0 : Int) < (b.size : Int) := by omega
    have hi : ∀ h, (((b[0]'h).toNat : Nat) : Int) = 60 := fun h => by rw [at_eq b 0 h, ← hl, h0]; rfl
    clear em hl h0
    go_enter Tryd.func28, Tryd.ntmps28
    go_wp2_with fail
    refine (HU.out _).mono ?_
    rintro e w' ⟨rfl, hb⟩
    have HB := Lib.hid hb
    clear HU hb
    go_wp2
    go_ret
    exact ⟨rfl, (hbel _).out.trans (HB.out.mono (by simp))⟩
  · have _u : True := trivial
    by_cases h1 : b.toList = [62]
    · have em : markL b.data.toList = u4 62 := by unfold markL; rw [← hl]; rw [if_neg h0]; rw [if_pos h1]
      have hu := fun W => unitText 62 (by decide) W
      rw [em]
      simp only [show ((62 : Nat) : Int) = 62 from rfl] at hu
      generalize u4 62 = E at hu ⊢
      have HU := Lib.hid hu
      clear hu
      have e0 : (b.toList == [60]) = false := beq_eq_false_iff_ne.2 h0
      have e1 : (b.toList == [62]) = true := beq_iff_eq.2 h1
      have hz : 0 < b.size := by rw [← size_list, ← hl, h1]; decide
      have hz2 : (0 : Int) < (b.size : Int) := by omega
      have hi : ∀ h, (((b[0]'h).toNat : Nat) : Int) = 62 := fun h => by rw [at_eq b 0 h, ← hl, h1]; rfl
      clear em hl h0 h1
      go_enter Tryd.func28, Tryd.ntmps28
      go_wp2_with fail
      refine (HU.out _).mono ?_
      rintro e w' ⟨rfl, hb⟩
      have HB := Lib.hid hb
      clear HU hb
      go_wp2
      go_ret
      exact ⟨rfl, (hbel _).out.trans (HB.out.mono (by simp))⟩
    · have _u : True := trivial
      by_cases h2 : b.toList = [38]
      · have em : markL b.data.toList = u4 38 := by unfold markL; rw [← hl]; rw [if_neg h0]; rw [if_neg h1]; rw [if_pos h2]
        have hu := fun W => unitText 38 (by decide) W
        rw [em]
        simp only [show ((38 : Nat) : Int) = 38 from rfl] at hu
        generalize u4 38 = E at hu ⊢
        have HU := Lib.hid hu
        clear hu
        have e0 : (b.toList == [60]) = false := beq_eq_false_iff_ne.2 h0
        have e1 : (b.toList == [62]) = false := beq_eq_false_iff_ne.2 h1
        have e2 : (b.toList == [38]) = true := beq_iff_eq.2 h2
        have hz : 0 < b.size := by rw [← size_list, ← hl, h2]; decide
        have hz2 : (0 : Int) < (b.size : Int) := by omega
        have hi : ∀ h, (((b[0]'h).toNat : Nat) : Int) = 38 := fun h => by rw [at_eq b 0 h, ← hl, h2]; rfl
        clear em hl h0 h1 h2
        go_enter Tryd.func28, Tryd.ntmps28
        go_wp2_with fail
        refine (HU.out _).mono ?_
        rintro e w' ⟨rfl, hb⟩
        have HB := Lib.hid hb
        clear HU hb
        go_wp2
        go_ret
        exact ⟨rfl, (hbel _).out.trans (HB.out.mono (by simp))⟩
      · have _u : True := trivial
        by_cases h3 : b.toList = [226, 128, 168]
        · have em : markL b.data.toList = u4 8232 := by unfold markL; rw [← hl]; rw [if_neg h0]; rw [if_neg h1]; rw [if_neg h2]; rw [if_pos h3]
          have hu := fun W => unitText 8232 (by decide) W
          rw [em]
          simp only [show ((8232 : Nat) : Int) = 8232 from rfl] at hu
          generalize u4 8232 = E at hu ⊢
          have HU := Lib.hid hu
          clear hu
          have e0 : (b.toList == [60]) = false := beq_eq_false_iff_ne.2 h0
          have e1 : (b.toList == [62]) = false := beq_eq_false_iff_ne.2 h1
          have e2 : (b.toList == [38]) = false := beq_eq_false_iff_ne.2 h2
          have e3 : (b.toList == [226, 128, 168]) = true := beq_iff_eq.2 h3
          clear em hl h0 h1 h2 h3
          go_enter Tryd.func28, Tryd.ntmps28
          go_wp2_with fail
          refine (HU.out _).mono ?_
          rintro e w' ⟨rfl, hb⟩
          have HB := Lib.hid hb
          clear HU hb
          go_wp2
          go_ret
          exact ⟨rfl, (hbel _).out.trans (HB.out.mono (by simp))⟩
        · have _u : True := trivial
          by_cases h4 : b.toList = [226, 128, 169]
          · have em : markL b.data.toList = u4 8233 := by unfold markL; rw [← hl]; rw [if_neg h0]; rw [if_neg h1]; rw [if_neg h2]; rw [if_neg h3]; rw [if_pos h4]
            have hu := fun W => unitText 8233 (by decide) W
            rw [em]
            simp only [show ((8233 : Nat) : Int) = 8233 from rfl] at hu
            generalize u4 8233 = E at hu ⊢
            have HU := Lib.hid hu
            clear hu
            have e0 : (b.toList == [60]) = false := beq_eq_false_iff_ne.2 h0
            have e1 : (b.toList == [62]) = false := beq_eq_false_iff_ne.2 h1
            have e2 : (b.toList == [38]) = false := beq_eq_false_iff_ne.2 h2
            have e3 : (b.toList == [226, 128, 168]) = false := beq_eq_false_iff_ne.2 h3
            have e4 : (b.toList == [226, 128, 169]) = true := beq_iff_eq.2 h4
            clear em hl h0 h1 h2 h3 h4
            go_enter Tryd.func28, Tryd.ntmps28
            go_wp2_with fail
            refine (HU.out _).mono ?_
            rintro e w' ⟨rfl, hb⟩
            have HB := Lib.hid hb
            clear HU hb
            go_wp2
            go_ret
            exact ⟨rfl, (hbel _).out.trans (HB.out.mono (by simp))⟩
          · have _u : True := trivial
            have em : markL b.data.toList = [] := by unfold markL; rw [← hl, if_neg h0, if_neg h1, if_neg h2, if_neg h3, if_neg h4]
            rw [em]
            have e0 : (b.toList == [60]) = false := beq_eq_false_iff_ne.2 h0
            have e1 : (b.toList == [62]) = false := beq_eq_false_iff_ne.2 h1
            have e2 : (b.toList == [38]) = false := beq_eq_false_iff_ne.2 h2
            have e3 : (b.toList == [226, 128, 168]) = false := beq_eq_false_iff_ne.2 h3
            have e4 : (b.toList == [226, 128, 169]) = false := beq_eq_false_iff_ne.2 h4
            clear em hl h0 h1 h2 h3 h4
            go_enter Tryd.func28, Tryd.ntmps28
            go_wp2
            go_ret
            exact ⟨rfl, (hbel _).out⟩
end Go.Proofs.YtklncgmfbflooaaDoor
