/- The reference's Quote without marks, walked (with quotedPart, marked, unitText, digit). -/
import Derived.Test.YtldcoaigecnpfaaDoorMended
import Derived.Deep.RegionLaw
import Derived.Laws.BytesArg
namespace Go.Proofs.YtldcoaigecnpfaaDoor
open Go.RowKit
theorem digit (n : Nat) (hn : n < 16) (w : World) : Calls Tryd.prog 66 #[.int .i64 n] w fun e w' => e = .returned (.int .u8 (hexd n)) ∧ w = w' := by
  have hn' : (n : Int) < 16 := by omega
  have hi : ∀ h, ((((⟨#[48, 49, 50, 51, 52, 53, 54, 55, 56, 57, 97, 98, 99, 100, 101, 102]⟩ : ByteArray)[n]'h).toNat : Nat) : Int) = (hexd n : Int) := fun h => hexS_at n hn h
  go_enter Tryd.func66, Tryd.ntmps66
  go_wp2
  go_ret
  exact ⟨rfl, rfl⟩
theorem i64_nib (x : Int) (h0 : 0 ≤ x) (h1 : x < 4294967296) : bits BinOp.and IntKind.i64 x 15 = x % 16 := bits_mask .i64 32 (by decide) (by intro n h0 h1; rw [IntKind.wrap_i64]; omega) 4 (by decide) x h0 h1
def TextPost (L : List UInt8) (w : World) (e : Ending) (w' : World) : Prop := e = .returned (.string ⟨L.toArray⟩) ∧ Below w.heap.size w w'
set_option maxRecDepth 100000 in
set_option maxHeartbeats 2000000 in
theorem unitText (x : Nat) (hx : x < 65536) (w : World) : Calls Tryd.prog 46 #[.int .i64 x] w (TextPost (u4 x) w) := by
  have e2 : bits BinOp.and IntKind.i64 ((x : Int) / 256) 15 = ((x / 256 % 16 : Nat) : Int) := by rw [i64_nib _ (by omega) (by omega)]; omega
  have e3 : bits BinOp.and IntKind.i64 ((x : Int) / 16) 15 = ((x / 16 % 16 : Nat) : Int) := by rw [i64_nib _ (by omega) (by omega)]; omega
  have e4 : bits BinOp.and IntKind.i64 (x : Int) 15 = ((x % 16 : Nat) : Int) := by rw [i64_nib _ (by omega) (by omega)]; omega
  have e1 : (x : Int) / 4096 = ((x / 4096 % 16 : Nat) : Int) := by omega
  have hu : Hid (u4 x = [92, 117, UInt8.ofNat (hexd (x / 4096 % 16)), UInt8.ofNat (hexd (x / 256 % 16)), UInt8.ofNat (hexd (x / 16 % 16)), UInt8.ofNat (hexd (x % 16))]) := rfl
  obtain ⟨a, ha, ea⟩ : ∃ a, a < 16 ∧ x / 4096 % 16 = a := ⟨_, Nat.mod_lt _ (by omega), rfl⟩
  obtain ⟨b, hb, eb⟩ : ∃ a, a < 16 ∧ x / 256 % 16 = a := ⟨_, Nat.mod_lt _ (by omega), rfl⟩
  obtain ⟨c, hc, ec⟩ : ∃ a, a < 16 ∧ x / 16 % 16 = a := ⟨_, Nat.mod_lt _ (by omega), rfl⟩
  obtain ⟨d, hd, ed⟩ : ∃ a, a < 16 ∧ x % 16 = a := ⟨_, Nat.mod_lt _ (by omega), rfl⟩
  rw [ea] at e1 hu
  rw [eb] at e2 hu
  rw [ec] at e3 hu
  rw [ed] at e4 hu
  clear ea eb ec ed
  have en : nums (u4 x) = [.int .u8 92, .int .u8 117, .int .u8 (hexd a), .int .u8 (hexd b), .int .u8 (hexd c), .int .u8 (hexd d)] := by
    rw [hu.out]
    have q : ∀ n, n < 16 → (UInt8.ofNat (hexd n)).toNat = hexd n := fun n hn => by
      have := hexd_lt n hn
      rw [UInt8.toNat_ofNat']; omega
    simp only [nums, List.map_cons, List.map_nil, q a ha, q b hb, q c hc, q d hd]
    rfl
  have hn : ∀ W : World, (convert 23 9 (.slice (some ⟨W.heap.size, 0, none⟩) 6 6)).run Tryd.prog (W.alloc (Obj.cells #[.int .u8 92, .int .u8 117, .int .u8 (hexd a), .int .u8 (hexd b), .int .u8 (hexd c), .int .u8 (hexd d)] 5)) = .ok (.string ⟨(u4 x).toArray⟩) (W.alloc (Obj.cells #[.int .u8 92, .int .u8 117, .int .u8 (hexd a), .int .u8 (hexd b), .int .u8 (hexd c), .int .u8 (hexd d)] 5)) := fun W => by
    have hB : Buf (W.alloc (Obj.cells (nums (u4 x)).toArray 5)) W.heap.size none (.slice (some ⟨W.heap.size, 0, none⟩) (u4 x).length 6) (u4 x) :=
      .inr ⟨W.heap.size, 0, 6, _, (0, 0), rfl, .inl (Nat.le_refl _), alloc_new W _, Nat.le_refl _, by decide, by rw [en]; exact Nat.le_refl 6, .inl (Nat.zero_le _), fun j hj => by rw [Nat.zero_add, List.getElem?_toArray]; exact nums_get _ j hj⟩
    have := hB.text
    rw [en] at this
    exact this
  have D1 := Lib.hid (fun W => digit a ha W)
  have D2 := Lib.hid (fun W => digit b hb W)
  have D3 := Lib.hid (fun W => digit c hc W)
  have D4 := Lib.hid (fun W => digit d hd W)
  have hnw := hn w
  clear hu en hn
  generalize u4 x = E at hnw ⊢
  go_enter Tryd.func46, Tryd.ntmps46
  go_wp2_with fail
  refine (D1.out _).mono ?_
  rintro e w' ⟨rfl, rfl⟩
  go_wp2_with fail
  refine (D2.out _).mono ?_
  rintro e w' ⟨rfl, rfl⟩
  go_wp2_with fail
  refine (D3.out _).mono ?_
  rintro e w' ⟨rfl, rfl⟩
  go_wp2_with fail
  refine (D4.out _).mono ?_
  rintro e w' ⟨rfl, rfl⟩
  go_wp2
  go_ret
  exact ⟨rfl, (Below.refl _ _).alloc (Nat.le_refl _) _⟩
def noMarks : Value := .agg #[.bool false, .bool false]
theorem marked0 (t : ByteArray) (w : World) : Calls Tryd.prog 45 #[.string t, .agg #[.bool false, .bool false]] w (TextPost [] w) := by
  go_enter Tryd.func45, Tryd.ntmps45
  go_wp2
  go_ret
  exact ⟨rfl, (Below.refl _ _).alloc (Nat.le_refl _) _⟩
/-- A character without marks. -/
def qp0 (l : List UInt8) : List UInt8 :=
  if natL l 0 = 34 ∨ natL l 0 = 92 then 92 :: l else if natL l 0 = 8 then [92, 98] else if natL l 0 = 12 then [92, 102] else if natL l 0 = 10 then [92, 110] else if natL l 0 = 13 then [92, 114] else if natL l 0 = 9 then [92, 116] else if natL l 0 < 32 then u4 (natL l 0) else l
theorem cons_text (t : ByteArray) : (⟨#[92]⟩ : ByteArray) ++ t = ⟨(92 :: t.data.toList).toArray⟩ := by
  apply ByteArray.ext
  apply Array.toList_inj.1
  simp
theorem same_text (t : ByteArray) : t = ⟨(t.data.toList).toArray⟩ := by
  apply ByteArray.ext
  simp
set_option maxRecDepth 100000 in
set_option maxHeartbeats 2000000 in
theorem qpart_34 (t : ByteArray) (w : World) (ht : 0 < t.size) (ht4 : t.size ≤ 4) (h : natL t.data.toList 0 = 34) : Calls Tryd.prog 27 #[.string t, .agg #[.bool false, .bool false]] w (TextPost (qp0 t.data.toList) w) := by
  have hq : qp0 t.data.toList = 92 :: t.data.toList := by unfold qp0; (repeat' split) <;> first | rfl | (exfalso; omega) | omega
  rw [hq]
  have hb : (w.alloc (Obj.cells #[.bool false, .bool false] 31)).heap.size = w.heap.size + 1 := by simp
  have hmk := Lib.hid (fun W => marked0 t W)
  have hat : ((t[0]'ht).toNat : Int) = (natL t.data.toList 0 : Int) := at_eq t 0 ht
  obtain ⟨c, hc⟩ : ∃ c : Int, c = ((t[0]'ht).toNat : Int) := ⟨_, rfl⟩
  have hcn : c = (natL t.data.toList 0 : Int) := by rw [hc, hat]
  have k34 : (c == 34) = true := by simp; omega
  rw [hc] at k34
  have HAT := Lib.hid hat
  clear hq hb hcn hc hat
  have hadd : ∀ W, (Op.stringOp .add ⟨#[92]⟩ t).run Tryd.prog W = .ok (.string (⟨#[92]⟩ ++ t)) W := fun W => run_string_add_sum W _ _ (by show 1 + t.size ≤ _; omega)
  go_enter Tryd.func27, Tryd.ntmps27
  go_wp2_with fail
  refine (hmk.out _).mono ?_
  rintro e w1 ⟨rfl, hb1⟩
  have HB := Lib.hid hb1
  clear hb1
  go_wp2
  go_ret
  exact ⟨congrArg Ending.returned (congrArg Value.string (cons_text t)), ((Below.refl _ _).alloc (Nat.le_refl _) _).trans (HB.out.mono (by simp))⟩
set_option maxRecDepth 100000 in
set_option maxHeartbeats 2000000 in
theorem qpart_92 (t : ByteArray) (w : World) (ht : 0 < t.size) (ht4 : t.size ≤ 4) (h : natL t.data.toList 0 = 92) : Calls Tryd.prog 27 #[.string t, .agg #[.bool false, .bool false]] w (TextPost (qp0 t.data.toList) w) := by
  have hq : qp0 t.data.toList = 92 :: t.data.toList := by unfold qp0; (repeat' split) <;> first | rfl | (exfalso; omega) | omega
  rw [hq]
  have hb : (w.alloc (Obj.cells #[.bool false, .bool false] 31)).heap.size = w.heap.size + 1 := by simp
  have hmk := Lib.hid (fun W => marked0 t W)
  have hat : ((t[0]'ht).toNat : Int) = (natL t.data.toList 0 : Int) := at_eq t 0 ht
  obtain ⟨c, hc⟩ : ∃ c : Int, c = ((t[0]'ht).toNat : Int) := ⟨_, rfl⟩
  have hcn : c = (natL t.data.toList 0 : Int) := by rw [hc, hat]
  have k34 : (c == 34) = false := by simp; omega
  have k92 : (c == 92) = true := by simp; omega
  rw [hc] at k34 k92
  have HAT := Lib.hid hat
  clear hq hb hcn hc hat
  have hadd : ∀ W, (Op.stringOp .add ⟨#[92]⟩ t).run Tryd.prog W = .ok (.string (⟨#[92]⟩ ++ t)) W := fun W => run_string_add_sum W _ _ (by show 1 + t.size ≤ _; omega)
  go_enter Tryd.func27, Tryd.ntmps27
  go_wp2_with fail
  refine (hmk.out _).mono ?_
  rintro e w1 ⟨rfl, hb1⟩
  have HB := Lib.hid hb1
  clear hb1
  go_wp2
  go_ret
  exact ⟨congrArg Ending.returned (congrArg Value.string (cons_text t)), ((Below.refl _ _).alloc (Nat.le_refl _) _).trans (HB.out.mono (by simp))⟩
set_option maxRecDepth 100000 in
set_option maxHeartbeats 2000000 in
theorem qpart_8 (t : ByteArray) (w : World) (ht : 0 < t.size) (ht4 : t.size ≤ 4) (h : natL t.data.toList 0 = 8) : Calls Tryd.prog 27 #[.string t, .agg #[.bool false, .bool false]] w (TextPost (qp0 t.data.toList) w) := by
  have hq : qp0 t.data.toList = [92, 98] := by unfold qp0; (repeat' split) <;> first | rfl | (exfalso; omega) | omega
  rw [hq]
  have hb : (w.alloc (Obj.cells #[.bool false, .bool false] 31)).heap.size = w.heap.size + 1 := by simp
  have hmk := Lib.hid (fun W => marked0 t W)
  have hat : ((t[0]'ht).toNat : Int) = (natL t.data.toList 0 : Int) := at_eq t 0 ht
  obtain ⟨c, hc⟩ : ∃ c : Int, c = ((t[0]'ht).toNat : Int) := ⟨_, rfl⟩
  have hcn : c = (natL t.data.toList 0 : Int) := by rw [hc, hat]
  have k34 : (c == 34) = false := by simp; omega
  have k92 : (c == 92) = false := by simp; omega
  have k8 : (c == 8) = true := by simp; omega
  rw [hc] at k34 k92 k8
  have HAT := Lib.hid hat
  clear hq hb hcn hc hat
  go_enter Tryd.func27, Tryd.ntmps27
  go_wp2_with fail
  refine (hmk.out _).mono ?_
  rintro e w1 ⟨rfl, hb1⟩
  have HB := Lib.hid hb1
  clear hb1
  go_wp2
  go_ret
  exact ⟨rfl, ((Below.refl _ _).alloc (Nat.le_refl _) _).trans (HB.out.mono (by simp))⟩
set_option maxRecDepth 100000 in
set_option maxHeartbeats 2000000 in
theorem qpart_12 (t : ByteArray) (w : World) (ht : 0 < t.size) (ht4 : t.size ≤ 4) (h : natL t.data.toList 0 = 12) : Calls Tryd.prog 27 #[.string t, .agg #[.bool false, .bool false]] w (TextPost (qp0 t.data.toList) w) := by
  have hq : qp0 t.data.toList = [92, 102] := by unfold qp0; (repeat' split) <;> first | rfl | (exfalso; omega) | omega
  rw [hq]
  have hb : (w.alloc (Obj.cells #[.bool false, .bool false] 31)).heap.size = w.heap.size + 1 := by simp
  have hmk := Lib.hid (fun W => marked0 t W)
  have hat : ((t[0]'ht).toNat : Int) = (natL t.data.toList 0 : Int) := at_eq t 0 ht
  obtain ⟨c, hc⟩ : ∃ c : Int, c = ((t[0]'ht).toNat : Int) := ⟨_, rfl⟩
  have hcn : c = (natL t.data.toList 0 : Int) := by rw [hc, hat]
  have k34 : (c == 34) = false := by simp; omega
  have k92 : (c == 92) = false := by simp; omega
  have k8 : (c == 8) = false := by simp; omega
  have k12 : (c == 12) = true := by simp; omega
  rw [hc] at k34 k92 k8 k12
  have HAT := Lib.hid hat
  clear hq hb hcn hc hat
  go_enter Tryd.func27, Tryd.ntmps27
  go_wp2_with fail
  refine (hmk.out _).mono ?_
  rintro e w1 ⟨rfl, hb1⟩
  have HB := Lib.hid hb1
  clear hb1
  go_wp2
  go_ret
  exact ⟨rfl, ((Below.refl _ _).alloc (Nat.le_refl _) _).trans (HB.out.mono (by simp))⟩
set_option maxRecDepth 100000 in
set_option maxHeartbeats 2000000 in
theorem qpart_10 (t : ByteArray) (w : World) (ht : 0 < t.size) (ht4 : t.size ≤ 4) (h : natL t.data.toList 0 = 10) : Calls Tryd.prog 27 #[.string t, .agg #[.bool false, .bool false]] w (TextPost (qp0 t.data.toList) w) := by
  have hq : qp0 t.data.toList = [92, 110] := by unfold qp0; (repeat' split) <;> first | rfl | (exfalso; omega) | omega
  rw [hq]
  have hb : (w.alloc (Obj.cells #[.bool false, .bool false] 31)).heap.size = w.heap.size + 1 := by simp
  have hmk := Lib.hid (fun W => marked0 t W)
  have hat : ((t[0]'ht).toNat : Int) = (natL t.data.toList 0 : Int) := at_eq t 0 ht
  obtain ⟨c, hc⟩ : ∃ c : Int, c = ((t[0]'ht).toNat : Int) := ⟨_, rfl⟩
  have hcn : c = (natL t.data.toList 0 : Int) := by rw [hc, hat]
  have k34 : (c == 34) = false := by simp; omega
  have k92 : (c == 92) = false := by simp; omega
  have k8 : (c == 8) = false := by simp; omega
  have k12 : (c == 12) = false := by simp; omega
  have k10 : (c == 10) = true := by simp; omega
  rw [hc] at k34 k92 k8 k12 k10
  have HAT := Lib.hid hat
  clear hq hb hcn hc hat
  go_enter Tryd.func27, Tryd.ntmps27
  go_wp2_with fail
  refine (hmk.out _).mono ?_
  rintro e w1 ⟨rfl, hb1⟩
  have HB := Lib.hid hb1
  clear hb1
  go_wp2
  go_ret
  exact ⟨rfl, ((Below.refl _ _).alloc (Nat.le_refl _) _).trans (HB.out.mono (by simp))⟩
set_option maxRecDepth 100000 in
set_option maxHeartbeats 2000000 in
theorem qpart_13 (t : ByteArray) (w : World) (ht : 0 < t.size) (ht4 : t.size ≤ 4) (h : natL t.data.toList 0 = 13) : Calls Tryd.prog 27 #[.string t, .agg #[.bool false, .bool false]] w (TextPost (qp0 t.data.toList) w) := by
  have hq : qp0 t.data.toList = [92, 114] := by unfold qp0; (repeat' split) <;> first | rfl | (exfalso; omega) | omega
  rw [hq]
  have hb : (w.alloc (Obj.cells #[.bool false, .bool false] 31)).heap.size = w.heap.size + 1 := by simp
  have hmk := Lib.hid (fun W => marked0 t W)
  have hat : ((t[0]'ht).toNat : Int) = (natL t.data.toList 0 : Int) := at_eq t 0 ht
  obtain ⟨c, hc⟩ : ∃ c : Int, c = ((t[0]'ht).toNat : Int) := ⟨_, rfl⟩
  have hcn : c = (natL t.data.toList 0 : Int) := by rw [hc, hat]
  have k34 : (c == 34) = false := by simp; omega
  have k92 : (c == 92) = false := by simp; omega
  have k8 : (c == 8) = false := by simp; omega
  have k12 : (c == 12) = false := by simp; omega
  have k10 : (c == 10) = false := by simp; omega
  have k13 : (c == 13) = true := by simp; omega
  rw [hc] at k34 k92 k8 k12 k10 k13
  have HAT := Lib.hid hat
  clear hq hb hcn hc hat
  go_enter Tryd.func27, Tryd.ntmps27
  go_wp2_with fail
  refine (hmk.out _).mono ?_
  rintro e w1 ⟨rfl, hb1⟩
  have HB := Lib.hid hb1
  clear hb1
  go_wp2
  go_ret
  exact ⟨rfl, ((Below.refl _ _).alloc (Nat.le_refl _) _).trans (HB.out.mono (by simp))⟩
set_option maxRecDepth 100000 in
set_option maxHeartbeats 2000000 in
theorem qpart_9 (t : ByteArray) (w : World) (ht : 0 < t.size) (ht4 : t.size ≤ 4) (h : natL t.data.toList 0 = 9) : Calls Tryd.prog 27 #[.string t, .agg #[.bool false, .bool false]] w (TextPost (qp0 t.data.toList) w) := by
  have hq : qp0 t.data.toList = [92, 116] := by unfold qp0; (repeat' split) <;> first | rfl | (exfalso; omega) | omega
  rw [hq]
  have hb : (w.alloc (Obj.cells #[.bool false, .bool false] 31)).heap.size = w.heap.size + 1 := by simp
  have hmk := Lib.hid (fun W => marked0 t W)
  have hat : ((t[0]'ht).toNat : Int) = (natL t.data.toList 0 : Int) := at_eq t 0 ht
  obtain ⟨c, hc⟩ : ∃ c : Int, c = ((t[0]'ht).toNat : Int) := ⟨_, rfl⟩
  have hcn : c = (natL t.data.toList 0 : Int) := by rw [hc, hat]
  have k34 : (c == 34) = false := by simp; omega
  have k92 : (c == 92) = false := by simp; omega
  have k8 : (c == 8) = false := by simp; omega
  have k12 : (c == 12) = false := by simp; omega
  have k10 : (c == 10) = false := by simp; omega
  have k13 : (c == 13) = false := by simp; omega
  have k9 : (c == 9) = true := by simp; omega
  rw [hc] at k34 k92 k8 k12 k10 k13 k9
  have HAT := Lib.hid hat
  clear hq hb hcn hc hat
  go_enter Tryd.func27, Tryd.ntmps27
  go_wp2_with fail
  refine (hmk.out _).mono ?_
  rintro e w1 ⟨rfl, hb1⟩
  have HB := Lib.hid hb1
  clear hb1
  go_wp2
  go_ret
  exact ⟨rfl, ((Below.refl _ _).alloc (Nat.le_refl _) _).trans (HB.out.mono (by simp))⟩
set_option maxRecDepth 100000 in
set_option maxHeartbeats 2000000 in
theorem qpart_low (t : ByteArray) (w : World) (ht : 0 < t.size) (ht4 : t.size ≤ 4) (h : natL t.data.toList 0 < 32) (h1 : ¬ (natL t.data.toList 0 = 8 ∨ natL t.data.toList 0 = 12 ∨ natL t.data.toList 0 = 10 ∨ natL t.data.toList 0 = 13 ∨ natL t.data.toList 0 = 9)) : Calls Tryd.prog 27 #[.string t, .agg #[.bool false, .bool false]] w (TextPost (qp0 t.data.toList) w) := by
  have hq : qp0 t.data.toList = u4 (natL t.data.toList 0) := by unfold qp0; (repeat' split) <;> first | rfl | (exfalso; omega) | omega
  rw [hq]
  have hb : (w.alloc (Obj.cells #[.bool false, .bool false] 31)).heap.size = w.heap.size + 1 := by simp
  have hmk := Lib.hid (fun W => marked0 t W)
  have hat : ((t[0]'ht).toNat : Int) = (natL t.data.toList 0 : Int) := at_eq t 0 ht
  obtain ⟨c, hc⟩ : ∃ c : Int, c = ((t[0]'ht).toNat : Int) := ⟨_, rfl⟩
  have hcn : c = (natL t.data.toList 0 : Int) := by rw [hc, hat]
  have k34 : (c == 34) = false := by simp; omega
  have k92 : (c == 92) = false := by simp; omega
  have k8 : (c == 8) = false := by simp; omega
  have k12 : (c == 12) = false := by simp; omega
  have k10 : (c == 10) = false := by simp; omega
  have k13 : (c == 13) = false := by simp; omega
  have k9 : (c == 9) = false := by simp; omega
  have kl : c < 32 := by omega
  rw [hc] at k34 k92 k8 k12 k10 k13 k9 kl
  have HAT := Lib.hid hat
  clear hq hb hcn hc hat
  have hut := Lib.hid (fun W => unitText (natL t.data.toList 0) (by omega) W)
  rw [← HAT.out] at hut
  go_enter Tryd.func27, Tryd.ntmps27
  go_wp2_with fail
  refine (hmk.out _).mono ?_
  rintro e w1 ⟨rfl, hb1⟩
  have HB := Lib.hid hb1
  clear hb1
  go_wp2_with fail
  refine (hut.out _).mono ?_
  rintro e w2 ⟨rfl, hb2⟩
  have HB2 := Lib.hid (HB.out.trans (hb2.mono HB.out.size))
  clear hb2
  go_wp2
  go_ret
  exact ⟨rfl, ((Below.refl _ _).alloc (Nat.le_refl _) _).trans (HB2.out.mono (by simp))⟩
set_option maxRecDepth 100000 in
set_option maxHeartbeats 2000000 in
theorem qpart_plain (t : ByteArray) (w : World) (ht : 0 < t.size) (ht4 : t.size ≤ 4) (h : 32 ≤ natL t.data.toList 0) (h1 : ¬ natL t.data.toList 0 = 34) (h2 : ¬ natL t.data.toList 0 = 92) : Calls Tryd.prog 27 #[.string t, .agg #[.bool false, .bool false]] w (TextPost (qp0 t.data.toList) w) := by
  have hq : qp0 t.data.toList = t.data.toList := by unfold qp0; (repeat' split) <;> first | rfl | (exfalso; omega) | omega
  rw [hq]
  have hb : (w.alloc (Obj.cells #[.bool false, .bool false] 31)).heap.size = w.heap.size + 1 := by simp
  have hmk := Lib.hid (fun W => marked0 t W)
  have hat : ((t[0]'ht).toNat : Int) = (natL t.data.toList 0 : Int) := at_eq t 0 ht
  obtain ⟨c, hc⟩ : ∃ c : Int, c = ((t[0]'ht).toNat : Int) := ⟨_, rfl⟩
  have hcn : c = (natL t.data.toList 0 : Int) := by rw [hc, hat]
  have k34 : (c == 34) = false := by simp; omega
  have k92 : (c == 92) = false := by simp; omega
  have k8 : (c == 8) = false := by simp; omega
  have k12 : (c == 12) = false := by simp; omega
  have k10 : (c == 10) = false := by simp; omega
  have k13 : (c == 13) = false := by simp; omega
  have k9 : (c == 9) = false := by simp; omega
  have kl : ¬ c < 32 := by omega
  rw [hc] at k34 k92 k8 k12 k10 k13 k9 kl
  have HAT := Lib.hid hat
  clear hq hb hcn hc hat
  go_enter Tryd.func27, Tryd.ntmps27
  go_wp2_with fail
  refine (hmk.out _).mono ?_
  rintro e w1 ⟨rfl, hb1⟩
  have HB := Lib.hid hb1
  clear hb1
  go_wp2
  go_ret
  exact ⟨congrArg Ending.returned (congrArg Value.string (same_text t)), ((Below.refl _ _).alloc (Nat.le_refl _) _).trans (HB.out.mono (by simp))⟩
theorem quotedPart0 (t : ByteArray) (w : World) (ht : 0 < t.size) (ht4 : t.size ≤ 4) : Calls Tryd.prog 27 #[.string t, .agg #[.bool false, .bool false]] w (TextPost (qp0 t.data.toList) w) := by
  by_cases h34 : natL t.data.toList 0 = 34
  · exact qpart_34 t w ht ht4 h34
  by_cases h92 : natL t.data.toList 0 = 92
  · exact qpart_92 t w ht ht4 h92
  by_cases h8 : natL t.data.toList 0 = 8
  · exact qpart_8 t w ht ht4 h8
  by_cases h12 : natL t.data.toList 0 = 12
  · exact qpart_12 t w ht ht4 h12
  by_cases h10 : natL t.data.toList 0 = 10
  · exact qpart_10 t w ht ht4 h10
  by_cases h13 : natL t.data.toList 0 = 13
  · exact qpart_13 t w ht ht4 h13
  by_cases h9 : natL t.data.toList 0 = 9
  · exact qpart_9 t w ht ht4 h9
  by_cases hl : natL t.data.toList 0 < 32
  · exact qpart_low t w ht ht4 hl (by omega)
  · exact qpart_plain t w ht ht4 (by omega) h34 h92
end Go.Proofs.YtldcoaigecnpfaaDoor
