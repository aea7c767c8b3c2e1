/- The statement FnQuoteByte, walked: it returns true, and leaves all that lay below as it was. -/
import Derived.Test.YtldcoaigecnpfaaDoorImplQuote
import Derived.Test.YtldcoaigecnpfaaDoorClose
import Derived.WalkSpells
import Derived.Laws.BytesArg
import Derived.Lib.Strings
namespace Go.Proofs.YtldcoaigecnpfaaDoor
open Go.RowKit
/-- One byte as a text. -/
def oneB (c : Nat) : ByteArray := ⟨#[UInt8.ofNat c]⟩
def twoB (a b : Nat) : ByteArray := ⟨#[UInt8.ofNat a, UInt8.ofNat b]⟩
theorem conv_byte (w : World) (c : Nat) : (convert 23 9 (.slice (some ⟨w.heap.size, 0, none⟩) 1 1)).run Tryd.prog (w.alloc (Obj.cells #[.int .u8 (c : Int)] 5)) = .ok (.string (oneB c)) (w.alloc (Obj.cells #[.int .u8 (c : Int)] 5)) := by
  have := run_convert_bytes_arg (P := Tryd.prog) (w.alloc (Obj.cells #[.int .u8 (c : Int)] 5)) 23 5 Tryd.underlying23 Tryd.underlying5 w.heap.size 0 1 1 [(c : Int)] rfl (fun i hi => by
    match i, hi with
    | 0, _ => simp) 9 Tryd.underlying9
  simpa [strOfNums, oneB] using this
theorem conv_two (w : World) (a b : Nat) : (convert 23 9 (.slice (some ⟨w.heap.size, 0, none⟩) 2 2)).run Tryd.prog (w.alloc (Obj.cells #[.int .u8 (a : Int), .int .u8 (b : Int)] 5)) = .ok (.string (twoB a b)) (w.alloc (Obj.cells #[.int .u8 (a : Int), .int .u8 (b : Int)] 5)) := by
  have := run_convert_bytes_arg (P := Tryd.prog) (w.alloc (Obj.cells #[.int .u8 (a : Int), .int .u8 (b : Int)] 5)) 23 5 Tryd.underlying23 Tryd.underlying5 w.heap.size 0 2 2 [(a : Int), (b : Int)] rfl (fun i hi => by
    match i, hi with
    | 0, _ => simp
    | 1, _ => simp) 9 Tryd.underlying9
  simpa [strOfNums, twoB] using this
theorem conv_at1 (w : World) (o : Obj) (c : Nat) : (convert 23 9 (.slice (some ⟨w.heap.size + 1, 0, none⟩) 1 1)).run Tryd.prog ((w.alloc o).alloc (Obj.cells #[.int .u8 (c : Int)] 5)) = .ok (.string (oneB c)) ((w.alloc o).alloc (Obj.cells #[.int .u8 (c : Int)] 5)) := by
  have := conv_byte (w.alloc o) c
  rwa [World.size_alloc] at this
theorem conv_at2 (w : World) (o o' : Obj) (c : Nat) : (convert 23 9 (.slice (some ⟨w.heap.size + 1 + 1, 0, none⟩) 1 1)).run Tryd.prog (((w.alloc o).alloc o').alloc (Obj.cells #[.int .u8 (c : Int)] 5)) = .ok (.string (oneB c)) (((w.alloc o).alloc o').alloc (Obj.cells #[.int .u8 (c : Int)] 5)) := by
  have := conv_byte ((w.alloc o).alloc o') c
  rwa [World.size_alloc, World.size_alloc] at this
theorem conv_two1 (w : World) (o : Obj) (a b : Nat) : (convert 23 9 (.slice (some ⟨w.heap.size + 1, 0, none⟩) 2 2)).run Tryd.prog ((w.alloc o).alloc (Obj.cells #[.int .u8 (a : Int), .int .u8 (b : Int)] 5)) = .ok (.string (twoB a b)) ((w.alloc o).alloc (Obj.cells #[.int .u8 (a : Int), .int .u8 (b : Int)] 5)) := by
  have := conv_two (w.alloc o) a b
  rwa [World.size_alloc] at this
theorem byte_wrap_all : ∀ c : Fin 256, IntKind.u8.wrap (c.val : Int) = (c.val : Int) := by decide +kernel
def qm : ByteArray := ⟨#[34]⟩
def bs : ByteArray := ⟨#[92]⟩
def u00 : ByteArray := ⟨#[92, 117, 48, 48]⟩
def qB (c : Nat) : ByteArray := ⟨([] ++ quoteL [UInt8.ofNat c]).toArray⟩
theorem qB_two : ∀ c : Fin 128, (c.val = 34 ∨ c.val = 92) → qB c.val = qm ++ (bs ++ oneB c.val) ++ qm := by decide +kernel
theorem qB_letter : qB 8 = qm ++ ⟨#[92, 98]⟩ ++ qm ∧ qB 9 = qm ++ ⟨#[92, 116]⟩ ++ qm ∧ qB 10 = qm ++ ⟨#[92, 110]⟩ ++ qm ∧ qB 12 = qm ++ ⟨#[92, 102]⟩ ++ qm ∧ qB 13 = qm ++ ⟨#[92, 114]⟩ ++ qm := by decide +kernel
theorem qB_low : ∀ c : Fin 32, ¬ (c.val = 8 ∨ c.val = 9 ∨ c.val = 10 ∨ c.val = 12 ∨ c.val = 13) → qB c.val = qm ++ (u00 ++ twoB (48 + c.val / 16) (hexd (c.val % 16))) ++ qm := by decide +kernel
theorem qB_plain : ∀ c : Fin 128, 32 ≤ c.val → ¬ c.val = 34 → ¬ c.val = 92 → qB c.val = qm ++ oneB c.val ++ qm := by decide +kernel
theorem clean_one : ∀ c : Fin 128, cleanL [UInt8.ofNat c.val] = true := by decide +kernel
/-- What is to be shown, the text of a string of one byte given. -/
def Law1 (c : Nat) (w : World) : Prop := Calls Tryd.prog 6 #[.int .i64 c] w fun e w' => e = .returned (.bool true) ∧ Below w.heap.size w w'
theorem sadd (x y : ByteArray) (h : x.size + y.size ≤ 100) (W : World) : (Op.stringOp .add x y).run Tryd.prog W = .ok (.string (x ++ y)) W := run_string_add_sum W _ _ (by omega)
theorem one_byte (c : Nat) (h : c < 128) (E : Addr) (w : World) (hT : Tabs w E) (n : Nat) (w0 : World) (h0 : Below w.heap.size w w0) (hX : qB c = n.repeat (fun x => x) (qB c)) :
    Calls Tryd.prog 15 #[.string ByteArray.empty, .string (oneB c)] w0 (fun e w' => e = .returned (.tuple #[.string (qB c), .bool true]) ∧ Below w0.heap.size w0 w') := by
  refine (implQuote ByteArray.empty (oneB c) E w0 (by decide) (by show 1 ≤ _; decide) (hT.below h0 hT.size)).mono ?_
  rintro e w' ⟨rfl, hb⟩
  refine ⟨?_, hb⟩
  have e1 : (oneB c).data.toList = [UInt8.ofNat c] := rfl
  have e2 : cleanL [UInt8.ofNat c] = true := clean_one ⟨c, h⟩
  rw [e1, e2]
  rfl
set_option maxRecDepth 100000 in
set_option maxHeartbeats 2000000 in
theorem arm_34 (E : Addr) (w : World) (hT : Tabs w E) : Law1 34 w := by
  have hone := fun w0 h0 => one_byte 34 (by omega) E w hT 0 w0 h0 rfl
  have hq : qB 34 = qm ++ (bs ++ oneB 34) ++ qm := qB_two ⟨34, by omega⟩ (by decide)
  rw [hq] at hone
  have hcv := conv_byte w 34
  have hcvb := fun o => conv_at1 w o 34
  have ha0 : ∀ W, (Op.stringOp .add ⟨#[92]⟩ (oneB 34)).run Tryd.prog W = .ok (.string (⟨#[92]⟩ ++ oneB 34)) W := fun W => sadd bs (oneB 34) (by decide) W
  have ha1 : ∀ W, (Op.stringOp .add ⟨#[34]⟩ (⟨#[92]⟩ ++ oneB 34)).run Tryd.prog W = .ok (.string (⟨#[34]⟩ ++ (⟨#[92]⟩ ++ oneB 34))) W := fun W => sadd qm (bs ++ oneB 34) (by decide) W
  have ha2 : ∀ W, (Op.stringOp .add (⟨#[34]⟩ ++ (⟨#[92]⟩ ++ oneB 34)) ⟨#[34]⟩).run Tryd.prog W = .ok (.string (⟨#[34]⟩ ++ (⟨#[92]⟩ ++ oneB 34) ++ ⟨#[34]⟩)) W := fun W => sadd (qm ++ (bs ++ oneB 34)) qm (by decide) W
  have eqm : qm = ⟨#[34]⟩ := rfl
  have ebs : bs = ⟨#[92]⟩ := rfl
  rw [eqm, ebs] at hone
  have ec : ((34 : Nat) : Int) = 34 := rfl
  simp only [ec] at hcv hcvb
  generalize oneB 34 = t at *
  have HONE := Lib.hid hone
  clear hone hq eqm ebs hT
  unfold Law1
  rw [ec]
  go_enter Tryd.func6, Tryd.ntmps6
  go_wp2_with fail
  refine (HONE.out _ (((Below.refl _ _).alloc (Nat.le_refl _) _).alloc (by simp <;> omega) _)).mono ?_
  rintro e w' ⟨rfl, hb⟩
  have HB := Lib.hid hb
  clear hb hcv hcvb
  go_wp2
  go_ret
  exact ⟨rfl, (((Below.refl _ _).alloc (Nat.le_refl _) _).alloc (by simp <;> omega) _).trans (HB.out.mono (by simp <;> omega))⟩
set_option maxRecDepth 100000 in
set_option maxHeartbeats 2000000 in
theorem arm_92 (E : Addr) (w : World) (hT : Tabs w E) : Law1 92 w := by
  have hone := fun w0 h0 => one_byte 92 (by omega) E w hT 0 w0 h0 rfl
  have hq : qB 92 = qm ++ (bs ++ oneB 92) ++ qm := qB_two ⟨92, by omega⟩ (by decide)
  rw [hq] at hone
  have hcv := conv_byte w 92
  have hcvb := fun o => conv_at1 w o 92
  have ha0 : ∀ W, (Op.stringOp .add ⟨#[92]⟩ (oneB 92)).run Tryd.prog W = .ok (.string (⟨#[92]⟩ ++ oneB 92)) W := fun W => sadd bs (oneB 92) (by decide) W
  have ha1 : ∀ W, (Op.stringOp .add ⟨#[34]⟩ (⟨#[92]⟩ ++ oneB 92)).run Tryd.prog W = .ok (.string (⟨#[34]⟩ ++ (⟨#[92]⟩ ++ oneB 92))) W := fun W => sadd qm (bs ++ oneB 92) (by decide) W
  have ha2 : ∀ W, (Op.stringOp .add (⟨#[34]⟩ ++ (⟨#[92]⟩ ++ oneB 92)) ⟨#[34]⟩).run Tryd.prog W = .ok (.string (⟨#[34]⟩ ++ (⟨#[92]⟩ ++ oneB 92) ++ ⟨#[34]⟩)) W := fun W => sadd (qm ++ (bs ++ oneB 92)) qm (by decide) W
  have eqm : qm = ⟨#[34]⟩ := rfl
  have ebs : bs = ⟨#[92]⟩ := rfl
  rw [eqm, ebs] at hone
  have ec : ((92 : Nat) : Int) = 92 := rfl
  simp only [ec] at hcv hcvb
  generalize oneB 92 = t at *
  have HONE := Lib.hid hone
  clear hone hq eqm ebs hT
  unfold Law1
  rw [ec]
  go_enter Tryd.func6, Tryd.ntmps6
  go_wp2_with fail
  refine (HONE.out _ (((Below.refl _ _).alloc (Nat.le_refl _) _).alloc (by simp <;> omega) _)).mono ?_
  rintro e w' ⟨rfl, hb⟩
  have HB := Lib.hid hb
  clear hb hcv hcvb
  go_wp2
  go_ret
  exact ⟨rfl, (((Below.refl _ _).alloc (Nat.le_refl _) _).alloc (by simp <;> omega) _).trans (HB.out.mono (by simp <;> omega))⟩
theorem arm_two (c : Nat) (_h : c < 128) (k : c = 34 ∨ c = 92) (E : Addr) (w : World) (hT : Tabs w E) : Law1 c w := by
  rcases k with rfl | rfl
  · exact arm_34 E w hT
  · exact arm_92 E w hT
set_option maxRecDepth 100000 in
set_option maxHeartbeats 2000000 in
theorem arm_8 (E : Addr) (w : World) (hT : Tabs w E) : Law1 8 w := by
  have hone := fun w0 h0 => one_byte 8 (by omega) E w hT 0 w0 h0 rfl
  have hq : qB 8 = ⟨#[34, 92, 98, 34]⟩ := qB_letter.1.trans (by decide)
  rw [hq] at hone
  have hcv := conv_byte w 8
  have hcvb := fun o => conv_at1 w o 8
  have ha1 : ∀ W, (Op.stringOp .add ⟨#[34]⟩ ⟨#[92, 98]⟩).run Tryd.prog W = .ok (.string ⟨#[34, 92, 98]⟩) W := fun W => sadd qm ⟨#[92, 98]⟩ (by decide) W
  have ha2 : ∀ W, (Op.stringOp .add ⟨#[34, 92, 98]⟩ ⟨#[34]⟩).run Tryd.prog W = .ok (.string ⟨#[34, 92, 98, 34]⟩) W := fun W => sadd ⟨#[34, 92, 98]⟩ qm (by decide) W
  have ec : ((8 : Nat) : Int) = 8 := rfl
  simp only [ec] at hcv hcvb
  generalize oneB 8 = t at *
  have HONE := Lib.hid hone
  clear hone hq hT
  unfold Law1
  rw [ec]
  go_enter Tryd.func6, Tryd.ntmps6
  go_wp2_with fail
  refine (HONE.out _ (((Below.refl _ _).alloc (Nat.le_refl _) _).alloc (by simp <;> omega) _)).mono ?_
  rintro e w' ⟨rfl, hb⟩
  have HB := Lib.hid hb
  clear hb hcv hcvb
  go_wp2
  go_ret
  exact ⟨rfl, (((Below.refl _ _).alloc (Nat.le_refl _) _).alloc (by simp <;> omega) _).trans (HB.out.mono (by simp <;> omega))⟩
set_option maxRecDepth 100000 in
set_option maxHeartbeats 2000000 in
theorem arm_9 (E : Addr) (w : World) (hT : Tabs w E) : Law1 9 w := by
  have hone := fun w0 h0 => one_byte 9 (by omega) E w hT 0 w0 h0 rfl
  have hq : qB 9 = ⟨#[34, 92, 116, 34]⟩ := qB_letter.2.1.trans (by decide)
  rw [hq] at hone
  have hcv := conv_byte w 9
  have hcvb := fun o => conv_at1 w o 9
  have ha1 : ∀ W, (Op.stringOp .add ⟨#[34]⟩ ⟨#[92, 116]⟩).run Tryd.prog W = .ok (.string ⟨#[34, 92, 116]⟩) W := fun W => sadd qm ⟨#[92, 116]⟩ (by decide) W
  have ha2 : ∀ W, (Op.stringOp .add ⟨#[34, 92, 116]⟩ ⟨#[34]⟩).run Tryd.prog W = .ok (.string ⟨#[34, 92, 116, 34]⟩) W := fun W => sadd ⟨#[34, 92, 116]⟩ qm (by decide) W
  have ec : ((9 : Nat) : Int) = 9 := rfl
  simp only [ec] at hcv hcvb
  generalize oneB 9 = t at *
  have HONE := Lib.hid hone
  clear hone hq hT
  unfold Law1
  rw [ec]
  go_enter Tryd.func6, Tryd.ntmps6
  go_wp2_with fail
  refine (HONE.out _ (((Below.refl _ _).alloc (Nat.le_refl _) _).alloc (by simp <;> omega) _)).mono ?_
  rintro e w' ⟨rfl, hb⟩
  have HB := Lib.hid hb
  clear hb hcv hcvb
  go_wp2
  go_ret
  exact ⟨rfl, (((Below.refl _ _).alloc (Nat.le_refl _) _).alloc (by simp <;> omega) _).trans (HB.out.mono (by simp <;> omega))⟩
set_option maxRecDepth 100000 in
set_option maxHeartbeats 2000000 in
theorem arm_10 (E : Addr) (w : World) (hT : Tabs w E) : Law1 10 w := by
  have hone := fun w0 h0 => one_byte 10 (by omega) E w hT 0 w0 h0 rfl
  have hq : qB 10 = ⟨#[34, 92, 110, 34]⟩ := qB_letter.2.2.1.trans (by decide)
  rw [hq] at hone
  have hcv := conv_byte w 10
  have hcvb := fun o => conv_at1 w o 10
  have ha1 : ∀ W, (Op.stringOp .add ⟨#[34]⟩ ⟨#[92, 110]⟩).run Tryd.prog W = .ok (.string ⟨#[34, 92, 110]⟩) W := fun W => sadd qm ⟨#[92, 110]⟩ (by decide) W
  have ha2 : ∀ W, (Op.stringOp .add ⟨#[34, 92, 110]⟩ ⟨#[34]⟩).run Tryd.prog W = .ok (.string ⟨#[34, 92, 110, 34]⟩) W := fun W => sadd ⟨#[34, 92, 110]⟩ qm (by decide) W
  have ec : ((10 : Nat) : Int) = 10 := rfl
  simp only [ec] at hcv hcvb
  generalize oneB 10 = t at *
  have HONE := Lib.hid hone
  clear hone hq hT
  unfold Law1
  rw [ec]
  go_enter Tryd.func6, Tryd.ntmps6
  go_wp2_with fail
  refine (HONE.out _ (((Below.refl _ _).alloc (Nat.le_refl _) _).alloc (by simp <;> omega) _)).mono ?_
  rintro e w' ⟨rfl, hb⟩
  have HB := Lib.hid hb
  clear hb hcv hcvb
  go_wp2
  go_ret
  exact ⟨rfl, (((Below.refl _ _).alloc (Nat.le_refl _) _).alloc (by simp <;> omega) _).trans (HB.out.mono (by simp <;> omega))⟩
set_option maxRecDepth 100000 in
set_option maxHeartbeats 2000000 in
theorem arm_12 (E : Addr) (w : World) (hT : Tabs w E) : Law1 12 w := by
  have hone := fun w0 h0 => one_byte 12 (by omega) E w hT 0 w0 h0 rfl
  have hq : qB 12 = ⟨#[34, 92, 102, 34]⟩ := qB_letter.2.2.2.1.trans (by decide)
  rw [hq] at hone
  have hcv := conv_byte w 12
  have hcvb := fun o => conv_at1 w o 12
  have ha1 : ∀ W, (Op.stringOp .add ⟨#[34]⟩ ⟨#[92, 102]⟩).run Tryd.prog W = .ok (.string ⟨#[34, 92, 102]⟩) W := fun W => sadd qm ⟨#[92, 102]⟩ (by decide) W
  have ha2 : ∀ W, (Op.stringOp .add ⟨#[34, 92, 102]⟩ ⟨#[34]⟩).run Tryd.prog W = .ok (.string ⟨#[34, 92, 102, 34]⟩) W := fun W => sadd ⟨#[34, 92, 102]⟩ qm (by decide) W
  have ec : ((12 : Nat) : Int) = 12 := rfl
  simp only [ec] at hcv hcvb
  generalize oneB 12 = t at *
  have HONE := Lib.hid hone
  clear hone hq hT
  unfold Law1
  rw [ec]
  go_enter Tryd.func6, Tryd.ntmps6
  go_wp2_with fail
  refine (HONE.out _ (((Below.refl _ _).alloc (Nat.le_refl _) _).alloc (by simp <;> omega) _)).mono ?_
  rintro e w' ⟨rfl, hb⟩
  have HB := Lib.hid hb
  clear hb hcv hcvb
  go_wp2
  go_ret
  exact ⟨rfl, (((Below.refl _ _).alloc (Nat.le_refl _) _).alloc (by simp <;> omega) _).trans (HB.out.mono (by simp <;> omega))⟩
set_option maxRecDepth 100000 in
set_option maxHeartbeats 2000000 in
theorem arm_13 (E : Addr) (w : World) (hT : Tabs w E) : Law1 13 w := by
  have hone := fun w0 h0 => one_byte 13 (by omega) E w hT 0 w0 h0 rfl
  have hq : qB 13 = ⟨#[34, 92, 114, 34]⟩ := qB_letter.2.2.2.2.trans (by decide)
  rw [hq] at hone
  have hcv := conv_byte w 13
  have hcvb := fun o => conv_at1 w o 13
  have ha1 : ∀ W, (Op.stringOp .add ⟨#[34]⟩ ⟨#[92, 114]⟩).run Tryd.prog W = .ok (.string ⟨#[34, 92, 114]⟩) W := fun W => sadd qm ⟨#[92, 114]⟩ (by decide) W
  have ha2 : ∀ W, (Op.stringOp .add ⟨#[34, 92, 114]⟩ ⟨#[34]⟩).run Tryd.prog W = .ok (.string ⟨#[34, 92, 114, 34]⟩) W := fun W => sadd ⟨#[34, 92, 114]⟩ qm (by decide) W
  have ec : ((13 : Nat) : Int) = 13 := rfl
  simp only [ec] at hcv hcvb
  generalize oneB 13 = t at *
  have HONE := Lib.hid hone
  clear hone hq hT
  unfold Law1
  rw [ec]
  go_enter Tryd.func6, Tryd.ntmps6
  go_wp2_with fail
  refine (HONE.out _ (((Below.refl _ _).alloc (Nat.le_refl _) _).alloc (by simp <;> omega) _)).mono ?_
  rintro e w' ⟨rfl, hb⟩
  have HB := Lib.hid hb
  clear hb hcv hcvb
  go_wp2
  go_ret
  exact ⟨rfl, (((Below.refl _ _).alloc (Nat.le_refl _) _).alloc (by simp <;> omega) _).trans (HB.out.mono (by simp <;> omega))⟩
set_option maxRecDepth 100000 in
set_option maxHeartbeats 2000000 in
theorem arm_plain (c : Nat) (h : c < 128) (h1 : 32 ≤ c) (h2 : ¬ c = 34) (h3 : ¬ c = 92) (E : Addr) (w : World) (hT : Tabs w E) : Law1 c w := by
  have hone := fun w0 h0 => one_byte c h E w hT 0 w0 h0 rfl
  have hq : qB c = qm ++ (oneB c) ++ qm := qB_plain ⟨c, h⟩ h1 h2 h3
  rw [hq] at hone
  have hcv := conv_byte w c
  have hcvb := fun o => conv_at1 w o c
  have hcvc := fun o o' => conv_at2 w o o' c
  have hwr : IntKind.u8.wrap (c : Int) = (c : Int) := byte_wrap_all ⟨c, by omega⟩
  have ha1 : ∀ W, (Op.stringOp .add ⟨#[34]⟩ (oneB c)).run Tryd.prog W = .ok (.string (⟨#[34]⟩ ++ (oneB c))) W := fun W => sadd qm (oneB c) (by show 1 + 1 ≤ _; omega) W
  have ha2 : ∀ W, (Op.stringOp .add (⟨#[34]⟩ ++ (oneB c)) ⟨#[34]⟩).run Tryd.prog W = .ok (.string (⟨#[34]⟩ ++ (oneB c) ++ ⟨#[34]⟩)) W := fun W => sadd (qm ++ (oneB c)) qm (by show 2 + 1 ≤ _; omega) W
  have eqm : qm = ⟨#[34]⟩ := rfl
  have e34 : ((c : Int) == 34) = false := by simp; omega
  have e92 : ((c : Int) == 92) = false := by simp; omega
  have e8 : ((c : Int) == 8) = false := by simp; omega
  have e9 : ((c : Int) == 9) = false := by simp; omega
  have e10 : ((c : Int) == 10) = false := by simp; omega
  have e12 : ((c : Int) == 12) = false := by simp; omega
  have e13 : ((c : Int) == 13) = false := by simp; omega
  have h32 : ¬ (c : Int) < 32 := by omega
  have hlo : ¬ (c : Int) < 0 := by omega
  have hhi : ¬ (127 : Int) < (c : Int) := by omega
  rw [eqm] at hone
  generalize oneB c = t at *
  clear h1 h2 h3
  have HONE := Lib.hid hone
  clear hone hq eqm hT
  unfold Law1
  go_enter Tryd.func6, Tryd.ntmps6
  go_wp2_with fail
  refine (HONE.out _ (((Below.refl _ _).alloc (Nat.le_refl _) _).alloc (by simp <;> omega) _)).mono ?_
  rintro e w' ⟨rfl, hb⟩
  have HB := Lib.hid hb
  clear hb hcv hcvb
  go_wp2
  go_ret
  exact ⟨rfl, (((Below.refl _ _).alloc (Nat.le_refl _) _).alloc (by simp <;> omega) _).trans (HB.out.mono (by simp <;> omega))⟩
set_option maxRecDepth 100000 in
set_option maxHeartbeats 2000000 in
theorem arm_low (c : Nat) (h : c < 32) (h1 : ¬ (c = 8 ∨ c = 9 ∨ c = 10 ∨ c = 12 ∨ c = 13)) (E : Addr) (w : World) (hT : Tabs w E) : Law1 c w := by
  obtain ⟨a, ha⟩ : ∃ a, a = 48 + c / 16 := ⟨_, rfl⟩
  obtain ⟨r, hr⟩ : ∃ r, r = c % 16 := ⟨_, rfl⟩
  obtain ⟨b, hb⟩ : ∃ b, b = hexd r := ⟨_, rfl⟩
  have hqq : qB c = qm ++ (u00 ++ twoB a b) ++ qm := by rw [ha, hb, hr]; exact qB_low ⟨c, h⟩ h1
  have ha' : IntKind.u8.wrap (48 + (c : Int) / 16) = (a : Int) := by rw [show (48 + (c : Int) / 16) = (a : Int) by omega]; exact byte_wrap_all ⟨a, by omega⟩
  have hr' : (c : Int) % 16 = (r : Int) := by omega
  have hr16 : (r : Int) < 16 := by omega
  have hix : ∀ h, ((((⟨#[48, 49, 50, 51, 52, 53, 54, 55, 56, 57, 97, 98, 99, 100, 101, 102]⟩ : ByteArray)[r]'h).toNat : Nat) : Int) = (b : Int) := fun h => by rw [hb]; exact hexS_at r (by omega) h
  have hcv2 := fun o => conv_two1 w o a b
  have ha0 : ∀ W, (Op.stringOp .add ⟨#[92, 117, 48, 48]⟩ (twoB a b)).run Tryd.prog W = .ok (.string (⟨#[92, 117, 48, 48]⟩ ++ twoB a b)) W := fun W => sadd u00 (twoB a b) (by show 4 + 2 ≤ _; omega) W
  have eu : u00 = ⟨#[92, 117, 48, 48]⟩ := rfl
  rw [eu] at hqq
  have hone := fun w0 h0 => one_byte c (by omega) E w hT 0 w0 h0 rfl
  have hq : qB c = qm ++ (⟨#[92, 117, 48, 48]⟩ ++ twoB a b) ++ qm := hqq
  rw [hq] at hone
  have hcv := conv_byte w c
  have hcvb := fun o => conv_at1 w o c
  have hcvc := fun o o' => conv_at2 w o o' c
  have hwr : IntKind.u8.wrap (c : Int) = (c : Int) := byte_wrap_all ⟨c, by omega⟩
  have ha1 : ∀ W, (Op.stringOp .add ⟨#[34]⟩ (⟨#[92, 117, 48, 48]⟩ ++ twoB a b)).run Tryd.prog W = .ok (.string (⟨#[34]⟩ ++ (⟨#[92, 117, 48, 48]⟩ ++ twoB a b))) W := fun W => sadd qm (u00 ++ twoB a b) (by show 1 + (4 + 2) ≤ _; omega) W
  have ha2 : ∀ W, (Op.stringOp .add (⟨#[34]⟩ ++ (⟨#[92, 117, 48, 48]⟩ ++ twoB a b)) ⟨#[34]⟩).run Tryd.prog W = .ok (.string (⟨#[34]⟩ ++ (⟨#[92, 117, 48, 48]⟩ ++ twoB a b) ++ ⟨#[34]⟩)) W := fun W => sadd (qm ++ (u00 ++ twoB a b)) qm (by show (1 + (4 + 2)) + 1 ≤ _; omega) W
  have eqm : qm = ⟨#[34]⟩ := rfl
  have e34 : ((c : Int) == 34) = false := by simp; omega
  have e92 : ((c : Int) == 92) = false := by simp; omega
  have e8 : ((c : Int) == 8) = false := by simp; omega
  have e9 : ((c : Int) == 9) = false := by simp; omega
  have e10 : ((c : Int) == 10) = false := by simp; omega
  have e12 : ((c : Int) == 12) = false := by simp; omega
  have e13 : ((c : Int) == 13) = false := by simp; omega
  have h32 : (c : Int) < 32 := by omega
  have hlo : ¬ (c : Int) < 0 := by omega
  have hhi : ¬ (127 : Int) < (c : Int) := by omega
  rw [eqm] at hone
  generalize oneB c = t at *
  generalize twoB a b = t2 at *
  have HONE := Lib.hid hone
  clear hone hq eqm hT hqq eu ha hr hb h1
  unfold Law1
  go_enter Tryd.func6, Tryd.ntmps6
  go_wp2_with fail
  refine (HONE.out _ ((((Below.refl _ _).alloc (Nat.le_refl _) _).alloc (by simp <;> omega) _).alloc (by simp <;> omega) _)).mono ?_
  rintro e w' ⟨rfl, hb⟩
  have HB := Lib.hid hb
  clear hb hcv hcvb
  go_wp2
  go_ret
  exact ⟨rfl, ((((Below.refl _ _).alloc (Nat.le_refl _) _).alloc (by simp <;> omega) _).alloc (by simp <;> omega) _).trans (HB.out.mono (by simp <;> omega))⟩
theorem fnQuoteByte_any (c : Int) (w : World) (_ : (Lit.int .i64 c).wf = true) {E : Addr} (hT : Tabs w E) :
    Calls Tryd.prog 6 #[.int .i64 c] w fun e w' => e = .returned (.bool true) ∧ Below w.heap.size w w' := by
  by_cases h : 0 ≤ c ∧ c < 128
  · obtain ⟨n, rfl⟩ : ∃ n : Nat, c = n := ⟨c.toNat, by omega⟩
    have hn : n < 128 := by omega
    by_cases k1 : n = 34 ∨ n = 92
    · exact arm_two n hn k1 E w hT
    by_cases k2 : n = 8 ∨ n = 9 ∨ n = 10 ∨ n = 12 ∨ n = 13
    · rcases k2 with rfl | rfl | rfl | rfl | rfl
      · exact arm_8 E w hT
      · exact arm_9 E w hT
      · exact arm_10 E w hT
      · exact arm_12 E w hT
      · exact arm_13 E w hT
    by_cases k3 : n < 32
    · exact arm_low n k3 k2 E w hT
    · exact arm_plain n hn (by omega) (by omega) (by omega) E w hT
  · by_cases h0 : c < 0
    · clear h
      go_enter Tryd.func6, Tryd.ntmps6
      go_wp2
      go_ret
      exact ⟨rfl, Below.refl _ _⟩
    · have h1 : 127 < c := by omega
      clear h
      go_enter Tryd.func6, Tryd.ntmps6
      go_wp2
      go_ret
      exact ⟨rfl, Below.refl _ _⟩
end Go.Proofs.YtldcoaigecnpfaaDoor
