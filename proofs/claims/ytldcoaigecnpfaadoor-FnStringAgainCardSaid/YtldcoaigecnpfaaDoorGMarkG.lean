/- The reference's marked and quotedPart with any marks, walked. -/
import Derived.Test.YtldcoaigecnpfaaDoorGWidth
namespace Go.Proofs.YtldcoaigecnpfaaDoor
open Go.RowKit
/-- The escape of a character that is marked, or nothing. -/
def markG (h j : Bool) (P : List UInt8) : List UInt8 :=
  if h = true ∧ P = [60] then u4 60 else if h = true ∧ P = [62] then u4 62 else if h = true ∧ P = [38] then u4 38 else if j = true ∧ P = [226, 128, 168] then u4 8232 else if j = true ∧ P = [226, 128, 169] then u4 8233 else []
set_option maxRecDepth 100000 in
set_option maxHeartbeats 2000000 in
theorem markedTT (b : ByteArray) (w : World) : Calls Tryd.prog 45 #[.string b, .agg #[.bool true, .bool true]] w (TextPost (markG true true b.data.toList) w) := by
  have hbel : ∀ o : Obj, Hid (Below w.heap.size w (w.alloc o)) := fun o => (Below.refl _ _).alloc (Nat.le_refl _) _
  have hl : b.toList = b.data.toList := Lib.toList_data b
  by_cases h0 : b.toList = [60]
  · have em : markG true true b.data.toList = u4 60 := by rw [← hl, h0]; rfl
    have hu := fun W => unitText 60 (by decide) W
    rw [em]
    simp only [show ((60 : Nat) : Int) = 60 from rfl] at hu
    generalize u4 60 = E at hu ⊢
    have HU := Lib.hid hu
    clear hu
    have e0 : (b.toList == [60]) = true := beq_iff_eq.2 h0
    have hz : 0 < b.size := by rw [← size_list, ← hl, h0]; decide
    have hz2 : (0 : Int) < (b.size : Int) := by omega
    have hi : ∀ h, (((b[0]'h).toNat : Nat) : Int) = 60 := fun h => by rw [at_eq b 0 h, ← hl, h0]; rfl
    clear em hl h0
    go_enter Tryd.func45, Tryd.ntmps45
    go_wp2_with fail
    refine (HU.out _).mono ?_
    rintro e w' ⟨rfl, hb⟩
    have HB := Lib.hid hb
    clear HU hb
    go_wp2
    go_ret
    exact ⟨rfl, (hbel _).out.trans (HB.out.mono (by simp))⟩
  by_cases h1 : b.toList = [62]
  · have em : markG true true b.data.toList = u4 62 := by rw [← hl, h1]; rfl
    have hu := fun W => unitText 62 (by decide) W
    rw [em]
    simp only [show ((62 : Nat) : Int) = 62 from rfl] at hu
    generalize u4 62 = E at hu ⊢
    have HU := Lib.hid hu
    clear hu
    have e0 : (b.toList == [60]) = false := beq_eq_false_iff_ne.2 h0
    have e1 : (b.toList == [62]) = true := beq_iff_eq.2 h1
    have hz : 0 < b.size := by rw [← size_list, ← hl, h1]; decide
    have hz2 : (0 : Int) < (b.size : Int) := by omega
    have hi : ∀ h, (((b[0]'h).toNat : Nat) : Int) = 62 := fun h => by rw [at_eq b 0 h, ← hl, h1]; rfl
    clear em hl h0 h1
    go_enter Tryd.func45, Tryd.ntmps45
    go_wp2_with fail
    refine (HU.out _).mono ?_
    rintro e w' ⟨rfl, hb⟩
    have HB := Lib.hid hb
    clear HU hb
    go_wp2
    go_ret
    exact ⟨rfl, (hbel _).out.trans (HB.out.mono (by simp))⟩
  by_cases h2 : b.toList = [38]
  · have em : markG true true b.data.toList = u4 38 := by rw [← hl, h2]; rfl
    have hu := fun W => unitText 38 (by decide) W
    rw [em]
    simp only [show ((38 : Nat) : Int) = 38 from rfl] at hu
    generalize u4 38 = E at hu ⊢
    have HU := Lib.hid hu
    clear hu
    have e0 : (b.toList == [60]) = false := beq_eq_false_iff_ne.2 h0
    have e1 : (b.toList == [62]) = false := beq_eq_false_iff_ne.2 h1
    have e2 : (b.toList == [38]) = true := beq_iff_eq.2 h2
    have hz : 0 < b.size := by rw [← size_list, ← hl, h2]; decide
    have hz2 : (0 : Int) < (b.size : Int) := by omega
    have hi : ∀ h, (((b[0]'h).toNat : Nat) : Int) = 38 := fun h => by rw [at_eq b 0 h, ← hl, h2]; rfl
    clear em hl h0 h1 h2
    go_enter Tryd.func45, Tryd.ntmps45
    go_wp2_with fail
    refine (HU.out _).mono ?_
    rintro e w' ⟨rfl, hb⟩
    have HB := Lib.hid hb
    clear HU hb
    go_wp2
    go_ret
    exact ⟨rfl, (hbel _).out.trans (HB.out.mono (by simp))⟩
  by_cases h3 : b.toList = [226, 128, 168]
  · have em : markG true true b.data.toList = u4 8232 := by rw [← hl, h3]; rfl
    have hu := fun W => unitText 8232 (by decide) W
    rw [em]
    simp only [show ((8232 : Nat) : Int) = 8232 from rfl] at hu
    generalize u4 8232 = E at hu ⊢
    have HU := Lib.hid hu
    clear hu
    have e0 : (b.toList == [60]) = false := beq_eq_false_iff_ne.2 h0
    have e1 : (b.toList == [62]) = false := beq_eq_false_iff_ne.2 h1
    have e2 : (b.toList == [38]) = false := beq_eq_false_iff_ne.2 h2
    have e3 : (b.toList == [226, 128, 168]) = true := beq_iff_eq.2 h3
    clear em hl h0 h1 h2 h3
    go_enter Tryd.func45, Tryd.ntmps45
    go_wp2_with fail
    refine (HU.out _).mono ?_
    rintro e w' ⟨rfl, hb⟩
    have HB := Lib.hid hb
    clear HU hb
    go_wp2
    go_ret
    exact ⟨rfl, (hbel _).out.trans (HB.out.mono (by simp))⟩
  by_cases h4 : b.toList = [226, 128, 169]
  · have em : markG true true b.data.toList = u4 8233 := by rw [← hl, h4]; rfl
    have hu := fun W => unitText 8233 (by decide) W
    rw [em]
    simp only [show ((8233 : Nat) : Int) = 8233 from rfl] at hu
    generalize u4 8233 = E at hu ⊢
    have HU := Lib.hid hu
    clear hu
    have e0 : (b.toList == [60]) = false := beq_eq_false_iff_ne.2 h0
    have e1 : (b.toList == [62]) = false := beq_eq_false_iff_ne.2 h1
    have e2 : (b.toList == [38]) = false := beq_eq_false_iff_ne.2 h2
    have e3 : (b.toList == [226, 128, 168]) = false := beq_eq_false_iff_ne.2 h3
    have e4 : (b.toList == [226, 128, 169]) = true := beq_iff_eq.2 h4
    clear em hl h0 h1 h2 h3 h4
    go_enter Tryd.func45, Tryd.ntmps45
    go_wp2_with fail
    refine (HU.out _).mono ?_
    rintro e w' ⟨rfl, hb⟩
    have HB := Lib.hid hb
    clear HU hb
    go_wp2
    go_ret
    exact ⟨rfl, (hbel _).out.trans (HB.out.mono (by simp))⟩
  have em : markG true true b.data.toList = [] := by unfold markG; rw [← hl]; simp [h0, h1, h2, h3, h4]
  rw [em]
  have e0 : (b.toList == [60]) = false := beq_eq_false_iff_ne.2 h0
  have e1 : (b.toList == [62]) = false := beq_eq_false_iff_ne.2 h1
  have e2 : (b.toList == [38]) = false := beq_eq_false_iff_ne.2 h2
  have e3 : (b.toList == [226, 128, 168]) = false := beq_eq_false_iff_ne.2 h3
  have e4 : (b.toList == [226, 128, 169]) = false := beq_eq_false_iff_ne.2 h4
  clear em hl h0 h1 h2 h3 h4
  go_enter Tryd.func45, Tryd.ntmps45
  go_wp2
  go_ret
  exact ⟨rfl, (hbel _).out⟩
set_option maxRecDepth 100000 in
set_option maxHeartbeats 2000000 in
theorem markedTF (b : ByteArray) (w : World) : Calls Tryd.prog 45 #[.string b, .agg #[.bool true, .bool false]] w (TextPost (markG true false b.data.toList) w) := by
  have hbel : ∀ o : Obj, Hid (Below w.heap.size w (w.alloc o)) := fun o => (Below.refl _ _).alloc (Nat.le_refl _) _
  have hl : b.toList = b.data.toList := Lib.toList_data b
  by_cases h0 : b.toList = [60]
  · have em : markG true false b.data.toList = u4 60 := by rw [← hl, h0]; rfl
    have hu := fun W => unitText 60 (by decide) W
    rw [em]
    simp only [show ((60 : Nat) : Int) = 60 from rfl] at hu
    generalize u4 60 = E at hu ⊢
    have HU := Lib.hid hu
    clear hu
    have e0 : (b.toList == [60]) = true := beq_iff_eq.2 h0
    have hz : 0 < b.size := by rw [← size_list, ← hl, h0]; decide
    have hz2 : (0 : Int) < (b.size : Int) := by omega
    have hi : ∀ h, (((b[0]'h).toNat : Nat) : Int) = 60 := fun h => by rw [at_eq b 0 h, ← hl, h0]; rfl
    clear em hl h0
    go_enter Tryd.func45, Tryd.ntmps45
    go_wp2_with fail
    refine (HU.out _).mono ?_
    rintro e w' ⟨rfl, hb⟩
    have HB := Lib.hid hb
    clear HU hb
    go_wp2
    go_ret
    exact ⟨rfl, (hbel _).out.trans (HB.out.mono (by simp))⟩
  by_cases h1 : b.toList = [62]
  · have em : markG true false b.data.toList = u4 62 := by rw [← hl, h1]; rfl
    have hu := fun W => unitText 62 (by decide) W
    rw [em]
    simp only [show ((62 : Nat) : Int) = 62 from rfl] at hu
    generalize u4 62 = E at hu ⊢
    have HU := Lib.hid hu
    clear hu
    have e0 : (b.toList == [60]) = false := beq_eq_false_iff_ne.2 h0
    have e1 : (b.toList == [62]) = true := beq_iff_eq.2 h1
    have hz : 0 < b.size := by rw [← size_list, ← hl, h1]; decide
    have hz2 : (0 : Int) < (b.size : Int) := by omega
    have hi : ∀ h, (((b[0]'h).toNat : Nat) : Int) = 62 := fun h => by rw [at_eq b 0 h, ← hl, h1]; rfl
    clear em hl h0 h1
    go_enter Tryd.func45, Tryd.ntmps45
    go_wp2_with fail
    refine (HU.out _).mono ?_
    rintro e w' ⟨rfl, hb⟩
    have HB := Lib.hid hb
    clear HU hb
    go_wp2
    go_ret
    exact ⟨rfl, (hbel _).out.trans (HB.out.mono (by simp))⟩
  by_cases h2 : b.toList = [38]
  · have em : markG true false b.data.toList = u4 38 := by rw [← hl, h2]; rfl
    have hu := fun W => unitText 38 (by decide) W
    rw [em]
    simp only [show ((38 : Nat) : Int) = 38 from rfl] at hu
    generalize u4 38 = E at hu ⊢
    have HU := Lib.hid hu
    clear hu
    have e0 : (b.toList == [60]) = false := beq_eq_false_iff_ne.2 h0
    have e1 : (b.toList == [62]) = false := beq_eq_false_iff_ne.2 h1
    have e2 : (b.toList == [38]) = true := beq_iff_eq.2 h2
    have hz : 0 < b.size := by rw [← size_list, ← hl, h2]; decide
    have hz2 : (0 : Int) < (b.size : Int) := by omega
    have hi : ∀ h, (((b[0]'h).toNat : Nat) : Int) = 38 := fun h => by rw [at_eq b 0 h, ← hl, h2]; rfl
    clear em hl h0 h1 h2
    go_enter Tryd.func45, Tryd.ntmps45
    go_wp2_with fail
    refine (HU.out _).mono ?_
    rintro e w' ⟨rfl, hb⟩
    have HB := Lib.hid hb
    clear HU hb
    go_wp2
    go_ret
    exact ⟨rfl, (hbel _).out.trans (HB.out.mono (by simp))⟩
  have em : markG true false b.data.toList = [] := by unfold markG; rw [← hl]; simp [h0, h1, h2]
  rw [em]
  have e0 : (b.toList == [60]) = false := beq_eq_false_iff_ne.2 h0
  have e1 : (b.toList == [62]) = false := beq_eq_false_iff_ne.2 h1
  have e2 : (b.toList == [38]) = false := beq_eq_false_iff_ne.2 h2
  clear em hl h0 h1 h2
  go_enter Tryd.func45, Tryd.ntmps45
  go_wp2
  go_ret
  exact ⟨rfl, (hbel _).out⟩
set_option maxRecDepth 100000 in
set_option maxHeartbeats 2000000 in
theorem markedFT (b : ByteArray) (w : World) : Calls Tryd.prog 45 #[.string b, .agg #[.bool false, .bool true]] w (TextPost (markG false true b.data.toList) w) := by
  have hbel : ∀ o : Obj, Hid (Below w.heap.size w (w.alloc o)) := fun o => (Below.refl _ _).alloc (Nat.le_refl _) _
  have hl : b.toList = b.data.toList := Lib.toList_data b
  by_cases h3 : b.toList = [226, 128, 168]
  · have em : markG false true b.data.toList = u4 8232 := by rw [← hl, h3]; rfl
    have hu := fun W => unitText 8232 (by decide) W
    rw [em]
    simp only [show ((8232 : Nat) : Int) = 8232 from rfl] at hu
    generalize u4 8232 = E at hu ⊢
    have HU := Lib.hid hu
    clear hu
    have e3 : (b.toList == [226, 128, 168]) = true := beq_iff_eq.2 h3
    clear em hl h3
    go_enter Tryd.func45, Tryd.ntmps45
    go_wp2_with fail
    refine (HU.out _).mono ?_
    rintro e w' ⟨rfl, hb⟩
    have HB := Lib.hid hb
    clear HU hb
    go_wp2
    go_ret
    exact ⟨rfl, (hbel _).out.trans (HB.out.mono (by simp))⟩
  by_cases h4 : b.toList = [226, 128, 169]
  · have em : markG false true b.data.toList = u4 8233 := by rw [← hl, h4]; rfl
    have hu := fun W => unitText 8233 (by decide) W
    rw [em]
    simp only [show ((8233 : Nat) : Int) = 8233 from rfl] at hu
    generalize u4 8233 = E at hu ⊢
    have HU := Lib.hid hu
    clear hu
    have e3 : (b.toList == [226, 128, 168]) = false := beq_eq_false_iff_ne.2 h3
    have e4 : (b.toList == [226, 128, 169]) = true := beq_iff_eq.2 h4
    clear em hl h3 h4
    go_enter Tryd.func45, Tryd.ntmps45
    go_wp2_with fail
    refine (HU.out _).mono ?_
    rintro e w' ⟨rfl, hb⟩
    have HB := Lib.hid hb
    clear HU hb
    go_wp2
    go_ret
    exact ⟨rfl, (hbel _).out.trans (HB.out.mono (by simp))⟩
  have em : markG false true b.data.toList = [] := by unfold markG; rw [← hl]; simp [h3, h4]
  rw [em]
  have e3 : (b.toList == [226, 128, 168]) = false := beq_eq_false_iff_ne.2 h3
  have e4 : (b.toList == [226, 128, 169]) = false := beq_eq_false_iff_ne.2 h4
  clear em hl h3 h4
  go_enter Tryd.func45, Tryd.ntmps45
  go_wp2
  go_ret
  exact ⟨rfl, (hbel _).out⟩
theorem markedG (h j : Bool) (b : ByteArray) (w : World) : Calls Tryd.prog 45 #[.string b, .agg #[.bool h, .bool j]] w (TextPost (markG h j b.data.toList) w) := by
  cases h <;> cases j
  · have e : markG false false b.data.toList = [] := by unfold markG; simp
    rw [e]; exact marked0 b w
  · exact markedFT b w
  · exact markedTF b w
  · exact markedTT b w
theorem markedN (h j : Bool) (b : ByteArray) (hm : markG h j b.data.toList = []) (w : World) : Calls Tryd.prog 45 #[.string b, .agg #[.bool h, .bool j]] w (TextPost [] w) := by
  have := markedG h j b w
  rw [hm] at this
  exact this
set_option maxRecDepth 100000 in
set_option maxHeartbeats 2000000 in
theorem qpg_34 (h j : Bool) (t : ByteArray) (w : World) (ht : 0 < t.size) (ht4 : t.size ≤ 4) (hm : markG h j t.data.toList = []) (hc0 : natL t.data.toList 0 = 34) : Calls Tryd.prog 27 #[.string t, .agg #[.bool h, .bool j]] w (TextPost (qp0 t.data.toList) w) := by
  have hq : qp0 t.data.toList = 92 :: t.data.toList := by unfold qp0; (repeat' split) <;> first | rfl | (exfalso; omega) | omega
  rw [hq]
  have hb : (w.alloc (Obj.cells #[.bool h, .bool j] 31)).heap.size = w.heap.size + 1 := by simp
  have hmk := Lib.hid (fun W => markedN h j t hm W)
  have hat : ((t[0]'ht).toNat : Int) = (natL t.data.toList 0 : Int) := at_eq t 0 ht
  obtain ⟨c, hc⟩ : ∃ c : Int, c = ((t[0]'ht).toNat : Int) := ⟨_, rfl⟩
  have hcn : c = (natL t.data.toList 0 : Int) := by rw [hc, hat]
  have k34 : (c == 34) = true := by simp; omega
  rw [hc] at k34
  have HAT := Lib.hid hat
  clear hm
  clear hq hb hcn hc hat
  have hadd : ∀ W, (Op.stringOp .add ⟨#[92]⟩ t).run Tryd.prog W = .ok (.string (⟨#[92]⟩ ++ t)) W := fun W => run_string_add_sum W _ _ (by show 1 + t.size ≤ _; omega)
  go_enter Tryd.func27, Tryd.ntmps27
  go_wp2_with fail
  refine (hmk.out _).mono ?_
  rintro e w1 ⟨rfl, hb1⟩
  have HB := Lib.hid hb1
  clear hb1
  go_wp2
  go_ret
  exact ⟨congrArg Ending.returned (congrArg Value.string (cons_text t)), ((Below.refl _ _).alloc (Nat.le_refl _) _).trans (HB.out.mono (by simp))⟩
set_option maxRecDepth 100000 in
set_option maxHeartbeats 2000000 in
theorem qpg_92 (h j : Bool) (t : ByteArray) (w : World) (ht : 0 < t.size) (ht4 : t.size ≤ 4) (hm : markG h j t.data.toList = []) (hc0 : natL t.data.toList 0 = 92) : Calls Tryd.prog 27 #[.string t, .agg #[.bool h, .bool j]] w (TextPost (qp0 t.data.toList) w) := by
  have hq : qp0 t.data.toList = 92 :: t.data.toList := by unfold qp0; (repeat' split) <;> first | rfl | (exfalso; omega) | omega
  rw [hq]
  have hb : (w.alloc (Obj.cells #[.bool h, .bool j] 31)).heap.size = w.heap.size + 1 := by simp
  have hmk := Lib.hid (fun W => markedN h j t hm W)
  have hat : ((t[0]'ht).toNat : Int) = (natL t.data.toList 0 : Int) := at_eq t 0 ht
  obtain ⟨c, hc⟩ : ∃ c : Int, c = ((t[0]'ht).toNat : Int) := ⟨_, rfl⟩
  have hcn : c = (natL t.data.toList 0 : Int) := by rw [hc, hat]
  have k34 : (c == 34) = false := by simp; omega
  have k92 : (c == 92) = true := by simp; omega
  rw [hc] at k34 k92
  have HAT := Lib.hid hat
  clear hm
  clear hq hb hcn hc hat
  have hadd : ∀ W, (Op.stringOp .add ⟨#[92]⟩ t).run Tryd.prog W = .ok (.string (⟨#[92]⟩ ++ t)) W := fun W => run_string_add_sum W _ _ (by show 1 + t.size ≤ _; omega)
  go_enter Tryd.func27, Tryd.ntmps27
  go_wp2_with fail
  refine (hmk.out _).mono ?_
  rintro e w1 ⟨rfl, hb1⟩
  have HB := Lib.hid hb1
  clear hb1
  go_wp2
  go_ret
  exact ⟨congrArg Ending.returned (congrArg Value.string (cons_text t)), ((Below.refl _ _).alloc (Nat.le_refl _) _).trans (HB.out.mono (by simp))⟩
set_option maxRecDepth 100000 in
set_option maxHeartbeats 2000000 in
theorem qpg_8 (h j : Bool) (t : ByteArray) (w : World) (ht : 0 < t.size) (_ht4 : t.size ≤ 4) (hm : markG h j t.data.toList = []) (hc0 : natL t.data.toList 0 = 8) : Calls Tryd.prog 27 #[.string t, .agg #[.bool h, .bool j]] w (TextPost (qp0 t.data.toList) w) := by
  have hq : qp0 t.data.toList = [92, 98] := by unfold qp0; (repeat' split) <;> first | rfl | (exfalso; omega) | omega
  rw [hq]
  have hb : (w.alloc (Obj.cells #[.bool h, .bool j] 31)).heap.size = w.heap.size + 1 := by simp
  have hmk := Lib.hid (fun W => markedN h j t hm W)
  have hat : ((t[0]'ht).toNat : Int) = (natL t.data.toList 0 : Int) := at_eq t 0 ht
  obtain ⟨c, hc⟩ : ∃ c : Int, c = ((t[0]'ht).toNat : Int) := ⟨_, rfl⟩
  have hcn : c = (natL t.data.toList 0 : Int) := by rw [hc, hat]
  have k34 : (c == 34) = false := by simp; omega
  have k92 : (c == 92) = false := by simp; omega
  have k8 : (c == 8) = true := by simp; omega
  rw [hc] at k34 k92 k8
  have HAT := Lib.hid hat
  clear hm
  clear hq hb hcn hc hat
  go_enter Tryd.func27, Tryd.ntmps27
  go_wp2_with fail
  refine (hmk.out _).mono ?_
  rintro e w1 ⟨rfl, hb1⟩
  have HB := Lib.hid hb1
  clear hb1
  go_wp2
  go_ret
  exact ⟨rfl, ((Below.refl _ _).alloc (Nat.le_refl _) _).trans (HB.out.mono (by simp))⟩
set_option maxRecDepth 100000 in
set_option maxHeartbeats 2000000 in
theorem qpg_12 (h j : Bool) (t : ByteArray) (w : World) (ht : 0 < t.size) (_ht4 : t.size ≤ 4) (hm : markG h j t.data.toList = []) (hc0 : natL t.data.toList 0 = 12) : Calls Tryd.prog 27 #[.string t, .agg #[.bool h, .bool j]] w (TextPost (qp0 t.data.toList) w) := by
  have hq : qp0 t.data.toList = [92, 102] := by unfold qp0; (repeat' split) <;> first | rfl | (exfalso; omega) | omega
  rw [hq]
  have hb : (w.alloc (Obj.cells #[.bool h, .bool j] 31)).heap.size = w.heap.size + 1 := by simp
  have hmk := Lib.hid (fun W => markedN h j t hm W)
  have hat : ((t[0]'ht).toNat : Int) = (natL t.data.toList 0 : Int) := at_eq t 0 ht
  obtain ⟨c, hc⟩ : ∃ c : Int, c = ((t[0]'ht).toNat : Int) := ⟨_, rfl⟩
  have hcn : c = (natL t.data.toList 0 : Int) := by rw [hc, hat]
  have k34 : (c == 34) = false := by simp; omega
  have k92 : (c == 92) = false := by simp; omega
  have k8 : (c == 8) = false := by simp; omega
  have k12 : (c == 12) = true := by simp; omega
  rw [hc] at k34 k92 k8 k12
  have HAT := Lib.hid hat
  clear hm
  clear hq hb hcn hc hat
  go_enter Tryd.func27, Tryd.ntmps27
  go_wp2_with fail
  refine (hmk.out _).mono ?_
  rintro e w1 ⟨rfl, hb1⟩
  have HB := Lib.hid hb1
  clear hb1
  go_wp2
  go_ret
  exact ⟨rfl, ((Below.refl _ _).alloc (Nat.le_refl _) _).trans (HB.out.mono (by simp))⟩
set_option maxRecDepth 100000 in
set_option maxHeartbeats 2000000 in
theorem qpg_10 (h j : Bool) (t : ByteArray) (w : World) (ht : 0 < t.size) (_ht4 : t.size ≤ 4) (hm : markG h j t.data.toList = []) (hc0 : natL t.data.toList 0 = 10) : Calls Tryd.prog 27 #[.string t, .agg #[.bool h, .bool j]] w (TextPost (qp0 t.data.toList) w) := by
  have hq : qp0 t.data.toList = [92, 110] := by unfold qp0; (repeat' split) <;> first | rfl | (exfalso; omega) | omega
  rw [hq]
  have hb : (w.alloc (Obj.cells #[.bool h, .bool j] 31)).heap.size = w.heap.size + 1 := by simp
  have hmk := Lib.hid (fun W => markedN h j t hm W)
  have hat : ((t[0]'ht).toNat : Int) = (natL t.data.toList 0 : Int) := at_eq t 0 ht
  obtain ⟨c, hc⟩ : ∃ c : Int, c = ((t[0]'ht).toNat : Int) := ⟨_, rfl⟩
  have hcn : c = (natL t.data.toList 0 : Int) := by rw [hc, hat]
  have k34 : (c == 34) = false := by simp; omega
  have k92 : (c == 92) = false := by simp; omega
  have k8 : (c == 8) = false := by simp; omega
  have k12 : (c == 12) = false := by simp; omega
  have k10 : (c == 10) = true := by simp; omega
  rw [hc] at k34 k92 k8 k12 k10
  have HAT := Lib.hid hat
  clear hm
  clear hq hb hcn hc hat
  go_enter Tryd.func27, Tryd.ntmps27
  go_wp2_with fail
  refine (hmk.out _).mono ?_
  rintro e w1 ⟨rfl, hb1⟩
  have HB := Lib.hid hb1
  clear hb1
  go_wp2
  go_ret
  exact ⟨rfl, ((Below.refl _ _).alloc (Nat.le_refl _) _).trans (HB.out.mono (by simp))⟩
set_option maxRecDepth 100000 in
set_option maxHeartbeats 2000000 in
theorem qpg_13 (h j : Bool) (t : ByteArray) (w : World) (ht : 0 < t.size) (_ht4 : t.size ≤ 4) (hm : markG h j t.data.toList = []) (hc0 : natL t.data.toList 0 = 13) : Calls Tryd.prog 27 #[.string t, .agg #[.bool h, .bool j]] w (TextPost (qp0 t.data.toList) w) := by
  have hq : qp0 t.data.toList = [92, 114] := by unfold qp0; (repeat' split) <;> first | rfl | (exfalso; omega) | omega
  rw [hq]
  have hb : (w.alloc (Obj.cells #[.bool h, .bool j] 31)).heap.size = w.heap.size + 1 := by simp
  have hmk := Lib.hid (fun W => markedN h j t hm W)
  have hat : ((t[0]'ht).toNat : Int) = (natL t.data.toList 0 : Int) := at_eq t 0 ht
  obtain ⟨c, hc⟩ : ∃ c : Int, c = ((t[0]'ht).toNat : Int) := ⟨_, rfl⟩
  have hcn : c = (natL t.data.toList 0 : Int) := by rw [hc, hat]
  have k34 : (c == 34) = false := by simp; omega
  have k92 : (c == 92) = false := by simp; omega
  have k8 : (c == 8) = false := by simp; omega
  have k12 : (c == 12) = false := by simp; omega
  have k10 : (c == 10) = false := by simp; omega
  have k13 : (c == 13) = true := by simp; omega
  rw [hc] at k34 k92 k8 k12 k10 k13
  have HAT := Lib.hid hat
  clear hm
  clear hq hb hcn hc hat
  go_enter Tryd.func27, Tryd.ntmps27
  go_wp2_with fail
  refine (hmk.out _).mono ?_
  rintro e w1 ⟨rfl, hb1⟩
  have HB := Lib.hid hb1
  clear hb1
  go_wp2
  go_ret
  exact ⟨rfl, ((Below.refl _ _).alloc (Nat.le_refl _) _).trans (HB.out.mono (by simp))⟩
set_option maxRecDepth 100000 in
set_option maxHeartbeats 2000000 in
theorem qpg_9 (h j : Bool) (t : ByteArray) (w : World) (ht : 0 < t.size) (_ht4 : t.size ≤ 4) (hm : markG h j t.data.toList = []) (hc0 : natL t.data.toList 0 = 9) : Calls Tryd.prog 27 #[.string t, .agg #[.bool h, .bool j]] w (TextPost (qp0 t.data.toList) w) := by
  have hq : qp0 t.data.toList = [92, 116] := by unfold qp0; (repeat' split) <;> first | rfl | (exfalso; omega) | omega
  rw [hq]
  have hb : (w.alloc (Obj.cells #[.bool h, .bool j] 31)).heap.size = w.heap.size + 1 := by simp
  have hmk := Lib.hid (fun W => markedN h j t hm W)
  have hat : ((t[0]'ht).toNat : Int) = (natL t.data.toList 0 : Int) := at_eq t 0 ht
  obtain ⟨c, hc⟩ : ∃ c : Int, c = ((t[0]'ht).toNat : Int) := ⟨_, rfl⟩
  have hcn : c = (natL t.data.toList 0 : Int) := by rw [hc, hat]
  have k34 : (c == 34) = false := by simp; omega
  have k92 : (c == 92) = false := by simp; omega
  have k8 : (c == 8) = false := by simp; omega
  have k12 : (c == 12) = false := by simp; omega
  have k10 : (c == 10) = false := by simp; omega
  have k13 : (c == 13) = false := by simp; omega
  have k9 : (c == 9) = true := by simp; omega
  rw [hc] at k34 k92 k8 k12 k10 k13 k9
  have HAT := Lib.hid hat
  clear hm
  clear hq hb hcn hc hat
  go_enter Tryd.func27, Tryd.ntmps27
  go_wp2_with fail
  refine (hmk.out _).mono ?_
  rintro e w1 ⟨rfl, hb1⟩
  have HB := Lib.hid hb1
  clear hb1
  go_wp2
  go_ret
  exact ⟨rfl, ((Below.refl _ _).alloc (Nat.le_refl _) _).trans (HB.out.mono (by simp))⟩
set_option maxRecDepth 100000 in
set_option maxHeartbeats 2000000 in
theorem qpg_low (h j : Bool) (t : ByteArray) (w : World) (ht : 0 < t.size) (_ht4 : t.size ≤ 4) (hm : markG h j t.data.toList = []) (hc0 : natL t.data.toList 0 < 32) (h1 : ¬ (natL t.data.toList 0 = 8 ∨ natL t.data.toList 0 = 12 ∨ natL t.data.toList 0 = 10 ∨ natL t.data.toList 0 = 13 ∨ natL t.data.toList 0 = 9)) : Calls Tryd.prog 27 #[.string t, .agg #[.bool h, .bool j]] w (TextPost (qp0 t.data.toList) w) := by
  have hq : qp0 t.data.toList = u4 (natL t.data.toList 0) := by unfold qp0; (repeat' split) <;> first | rfl | (exfalso; omega) | omega
  rw [hq]
  have hb : (w.alloc (Obj.cells #[.bool h, .bool j] 31)).heap.size = w.heap.size + 1 := by simp
  have hmk := Lib.hid (fun W => markedN h j t hm W)
  have hat : ((t[0]'ht).toNat : Int) = (natL t.data.toList 0 : Int) := at_eq t 0 ht
  obtain ⟨c, hc⟩ : ∃ c : Int, c = ((t[0]'ht).toNat : Int) := ⟨_, rfl⟩
  have hcn : c = (natL t.data.toList 0 : Int) := by rw [hc, hat]
  have k34 : (c == 34) = false := by simp; omega
  have k92 : (c == 92) = false := by simp; omega
  have k8 : (c == 8) = false := by simp; omega
  have k12 : (c == 12) = false := by simp; omega
  have k10 : (c == 10) = false := by simp; omega
  have k13 : (c == 13) = false := by simp; omega
  have k9 : (c == 9) = false := by simp; omega
  have kl : c < 32 := by omega
  rw [hc] at k34 k92 k8 k12 k10 k13 k9 kl
  have HAT := Lib.hid hat
  clear hm
  clear hq hb hcn hc hat
  have hut := Lib.hid (fun W => unitText (natL t.data.toList 0) (by omega) W)
  rw [← HAT.out] at hut
  go_enter Tryd.func27, Tryd.ntmps27
  go_wp2_with fail
  refine (hmk.out _).mono ?_
  rintro e w1 ⟨rfl, hb1⟩
  have HB := Lib.hid hb1
  clear hb1
  go_wp2_with fail
  refine (hut.out _).mono ?_
  rintro e w2 ⟨rfl, hb2⟩
  have HB2 := Lib.hid (HB.out.trans (hb2.mono HB.out.size))
  clear hb2
  go_wp2
  go_ret
  exact ⟨rfl, ((Below.refl _ _).alloc (Nat.le_refl _) _).trans (HB2.out.mono (by simp))⟩
set_option maxRecDepth 100000 in
set_option maxHeartbeats 2000000 in
theorem qpg_plain (h j : Bool) (t : ByteArray) (w : World) (ht : 0 < t.size) (_ht4 : t.size ≤ 4) (hm : markG h j t.data.toList = []) (hc0 : 32 ≤ natL t.data.toList 0) (h1 : ¬ natL t.data.toList 0 = 34) (h2 : ¬ natL t.data.toList 0 = 92) : Calls Tryd.prog 27 #[.string t, .agg #[.bool h, .bool j]] w (TextPost (qp0 t.data.toList) w) := by
  have hq : qp0 t.data.toList = t.data.toList := by unfold qp0; (repeat' split) <;> first | rfl | (exfalso; omega) | omega
  rw [hq]
  have hb : (w.alloc (Obj.cells #[.bool h, .bool j] 31)).heap.size = w.heap.size + 1 := by simp
  have hmk := Lib.hid (fun W => markedN h j t hm W)
  have hat : ((t[0]'ht).toNat : Int) = (natL t.data.toList 0 : Int) := at_eq t 0 ht
  obtain ⟨c, hc⟩ : ∃ c : Int, c = ((t[0]'ht).toNat : Int) := ⟨_, rfl⟩
  have hcn : c = (natL t.data.toList 0 : Int) := by rw [hc, hat]
  have k34 : (c == 34) = false := by simp; omega
  have k92 : (c == 92) = false := by simp; omega
  have k8 : (c == 8) = false := by simp; omega
  have k12 : (c == 12) = false := by simp; omega
  have k10 : (c == 10) = false := by simp; omega
  have k13 : (c == 13) = false := by simp; omega
  have k9 : (c == 9) = false := by simp; omega
  have kl : ¬ c < 32 := by omega
  rw [hc] at k34 k92 k8 k12 k10 k13 k9 kl
  have HAT := Lib.hid hat
  clear hm
  clear hq hb hcn hc hat
  go_enter Tryd.func27, Tryd.ntmps27
  go_wp2_with fail
  refine (hmk.out _).mono ?_
  rintro e w1 ⟨rfl, hb1⟩
  have HB := Lib.hid hb1
  clear hb1
  go_wp2
  go_ret
  exact ⟨congrArg Ending.returned (congrArg Value.string (same_text t)), ((Below.refl _ _).alloc (Nat.le_refl _) _).trans (HB.out.mono (by simp))⟩
theorem quotedPartN (h j : Bool) (t : ByteArray) (w : World) (ht : 0 < t.size) (ht4 : t.size ≤ 4) (hm : markG h j t.data.toList = []) : Calls Tryd.prog 27 #[.string t, .agg #[.bool h, .bool j]] w (TextPost (qp0 t.data.toList) w) := by
  by_cases h34 : natL t.data.toList 0 = 34
  · exact qpg_34 h j t w ht ht4 hm h34
  by_cases h92 : natL t.data.toList 0 = 92
  · exact qpg_92 h j t w ht ht4 hm h92
  by_cases h8 : natL t.data.toList 0 = 8
  · exact qpg_8 h j t w ht ht4 hm h8
  by_cases h12 : natL t.data.toList 0 = 12
  · exact qpg_12 h j t w ht ht4 hm h12
  by_cases h10 : natL t.data.toList 0 = 10
  · exact qpg_10 h j t w ht ht4 hm h10
  by_cases h13 : natL t.data.toList 0 = 13
  · exact qpg_13 h j t w ht ht4 hm h13
  by_cases h9 : natL t.data.toList 0 = 9
  · exact qpg_9 h j t w ht ht4 hm h9
  by_cases hl : natL t.data.toList 0 < 32
  · exact qpg_low h j t w ht ht4 hm hl (by omega)
  · exact qpg_plain h j t w ht ht4 hm (by omega) h34 h92
/-- A character with marks. -/
def qpG (h j : Bool) (l : List UInt8) : List UInt8 := if markG h j l = [] then qp0 l else markG h j l
set_option maxRecDepth 100000 in
set_option maxHeartbeats 2000000 in
theorem quotedPartG (h j : Bool) (t : ByteArray) (w : World) (ht : 0 < t.size) (ht4 : t.size ≤ 4) : Calls Tryd.prog 27 #[.string t, .agg #[.bool h, .bool j]] w (TextPost (qpG h j t.data.toList) w) := by
  unfold qpG
  by_cases hm : markG h j t.data.toList = []
  · rw [if_pos hm]; exact quotedPartN h j t w ht ht4 hm
  · rw [if_neg hm]
    have hmk := Lib.hid (fun W => markedG h j t W)
    have hne : ((⟨(markG h j t.data.toList).toArray⟩ : ByteArray).toList.isEmpty) = false := by rw [Lib.toList_data]; simpa using hm
    unfold TextPost at hmk ⊢
    generalize (⟨(markG h j t.data.toList).toArray⟩ : ByteArray) = X at hmk hne ⊢
    clear hm ht ht4
    go_enter Tryd.func27, Tryd.ntmps27
    go_wp2_with fail
    refine (hmk.out _).mono ?_
    rintro e w1 ⟨rfl, hb1⟩
    have HB := Lib.hid hb1
    clear hb1 hmk
    go_wp2
    go_ret
    exact ⟨rfl, ((Below.refl _ _).alloc (Nat.le_refl _) _).trans (HB.out.mono (by simp))⟩
end Go.Proofs.YtldcoaigecnpfaaDoor
