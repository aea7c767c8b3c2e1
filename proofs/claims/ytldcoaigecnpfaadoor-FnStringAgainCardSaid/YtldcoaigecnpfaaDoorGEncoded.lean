/- The reference's Encoded (a character in UTF-8) and unitAt, escaped, walked. -/
import Derived.Test.YtldcoaigecnpfaaDoorGClose
import Derived.Test.YtldcoaigecnpfaaDoorGBytes
import Derived.Test.YtldcoaigecnpfaaDoorGU4
import Derived.Test.YtldcoaigecnpfaaDoorGRdQuoted
namespace Go.Proofs.YtldcoaigecnpfaaDoor
open Go.RowKit
theorem nums_enc (c : Int) : nums (Lib.encodeRune c) = Lib.runeCells c := by
  rw [← Lib.byteCells_encodeRune]; rfl
/-- New bytes, read as a text. -/
theorem new_text (L : List UInt8) (W : World) (C : List Value) (n : Nat) (hC : nums L = C) (hn : L.length = n) (hmx : n ≤ maxLen) :
    (convert 23 9 (.slice (some ⟨W.heap.size, 0, none⟩) n n)).run Tryd.prog (W.alloc (Obj.cells C.toArray 5)) = .ok (.string ⟨L.toArray⟩) (W.alloc (Obj.cells C.toArray 5)) := by
  subst hC hn
  have hB : Buf (W.alloc (Obj.cells (nums L).toArray 5)) W.heap.size none (.slice (some ⟨W.heap.size, 0, none⟩) L.length L.length) L :=
    .inr ⟨W.heap.size, 0, L.length, _, (0, 0), rfl, .inl (Nat.le_refl _), alloc_new W _, Nat.le_refl _, hmx, by rw [List.size_toArray, nums_length]; omega, .inl (Nat.zero_le _), fun j hj => by rw [Nat.zero_add, List.getElem?_toArray]; exact nums_get _ j hj⟩
  exact hB.text
theorem i64_six (x : Int) (h0 : 0 ≤ x) (h1 : x < 4294967296) : bits BinOp.and IntKind.i64 x 63 = x % 64 := bits_mask .i64 32 (by decide) (by intro n h0 h1; rw [IntKind.wrap_i64]; omega) 6 (by decide) x h0 h1
set_option maxRecDepth 100000 in
set_option maxHeartbeats 2000000 in
theorem encodedS (c : Int) (h0 : 0 ≤ c) (h1 : c ≤ 1114111) (w : World) : Calls Tryd.prog 88 #[.int .i64 c] w (TextPost (Lib.encodeRune c) w) := by
  have m0 := i64_six c h0 (by omega)
  have m1 := i64_six (c / 64) (by omega) (by omega)
  have m2 := i64_six (c / 4096) (by omega) (by omega)
  by_cases a : c < 128
  · have e : nums (Lib.encodeRune c) = [.int .u8 c] := by rw [nums_enc]; unfold Lib.runeCells; rw [Lib.encodeRuneZ_one h0 (by omega)]; rfl
    have hcv := new_text _ w _ 1 e (by rw [← nums_length, e]; rfl) (by decide)
    clear e
    generalize Lib.encodeRune c = E at hcv ⊢
    go_enter Tryd.func88, Tryd.ntmps88
    go_wp2
    go_ret
    exact ⟨rfl, (Below.refl _ _).alloc (Nat.le_refl _) _⟩
  by_cases b : c < 2048
  · have e : nums (Lib.encodeRune c) = [.int .u8 (192 + c / 64), .int .u8 (128 + c % 64)] := by rw [nums_enc]; unfold Lib.runeCells; rw [Lib.encodeRuneZ_two (by omega) (by omega)]; rfl
    have hcv := new_text _ w _ 2 e (by rw [← nums_length, e]; rfl) (by decide)
    clear e
    generalize Lib.encodeRune c = E at hcv ⊢
    go_enter Tryd.func88, Tryd.ntmps88
    go_wp2
    go_ret
    exact ⟨rfl, (Below.refl _ _).alloc (Nat.le_refl _) _⟩
  by_cases d : 55296 ≤ c ∧ c ≤ 57343
  · have e : Lib.encodeRune c = BR := by unfold Lib.encodeRune; rw [Lib.encodeRuneZ_bad (by omega)]; rfl
    rw [e]
    obtain ⟨d1, d2⟩ := d
    go_enter Tryd.func88, Tryd.ntmps88
    go_wp2
    go_ret
    exact ⟨rfl, Below.refl _ _⟩
  by_cases f : c < 65536
  · have e : nums (Lib.encodeRune c) = [.int .u8 (224 + c / 4096), .int .u8 (128 + c / 64 % 64), .int .u8 (128 + c % 64)] := by rw [nums_enc]; unfold Lib.runeCells; rw [Lib.encodeRuneZ_three (by omega)]; rfl
    have hcv := new_text _ w _ 3 e (by rw [← nums_length, e]; rfl) (by decide)
    clear e
    generalize Lib.encodeRune c = E at hcv ⊢
    have d' : c < 55296 ∨ 57343 < c := by omega
    rcases d' with d' | d'
    all_goals (
      go_enter Tryd.func88, Tryd.ntmps88
      go_wp2
      go_ret
      exact ⟨rfl, (Below.refl _ _).alloc (Nat.le_refl _) _⟩)
  · have e : nums (Lib.encodeRune c) = [.int .u8 (240 + c / 262144), .int .u8 (128 + c / 4096 % 64), .int .u8 (128 + c / 64 % 64), .int .u8 (128 + c % 64)] := by rw [nums_enc]; unfold Lib.runeCells; rw [Lib.encodeRuneZ_four (by omega) (by omega)]; rfl
    have hcv := new_text _ w _ 4 e (by rw [← nums_length, e]; rfl) (by decide)
    clear e
    generalize Lib.encodeRune c = E at hcv ⊢
    have d' : 57343 < c := by omega
    go_enter Tryd.func88, Tryd.ntmps88
    go_wp2
    go_ret
    exact ⟨rfl, (Below.refl _ _).alloc (Nat.le_refl _) _⟩
/-- The first j digits. -/
def preV (l : List UInt8) : Nat → Int
  | 0 => 0
  | j + 1 => 16 * preV l j + hx (atL l (2 + j))
def preOk (l : List UInt8) (j : Nat) : Prop := ∀ i, i < j → 0 ≤ hx (atL l (2 + i))
theorem preV_succ (l : List UInt8) (j : Nat) : preV l (j + 1) = 16 * preV l j + hx (atL l (2 + j)) := rfl
theorem preV_range (l : List UInt8) : ∀ j, preOk l j → j ≤ 4 → 0 ≤ preV l j ∧ preV l j ≤ 65535 ∧ (j ≤ 3 → preV l j ≤ 4095) := by
  intro j h hj
  have d := fun i => hx_range (atL l (2 + i))
  have d0 := d 0
  have d1 := d 1
  have d2 := d 2
  have d3 := d 3
  match j, hj with
  | 0, _ => simp [preV]
  | 1, _ => have := h 0 (by omega); simp only [preV]; omega
  | 2, _ => have := h 0 (by omega); have := h 1 (by omega); simp only [preV]; omega
  | 3, _ => have := h 0 (by omega); have := h 1 (by omega); have := h 2 (by omega); simp only [preV]; omega
  | 4, _ => have := h 0 (by omega); have := h 1 (by omega); have := h 2 (by omega); have := h 3 (by omega); simp only [preV]; omega
theorem pre_hexOk (l : List UInt8) : preOk l 4 ↔ hexOk l := by
  unfold hexOk
  constructor
  · intro h; exact ⟨h 0 (by omega), h 1 (by omega), h 2 (by omega), h 3 (by omega)⟩
  · rintro ⟨a, b, c, d⟩ i hi
    match i, hi with
    | 0, _ => exact a
    | 1, _ => exact b
    | 2, _ => exact c
    | 3, _ => exact d
theorem pre_hexV (l : List UInt8) : preV l 4 = hexV l := by unfold hexV; simp only [preV, Nat.add_zero, Nat.reduceAdd]; omega
def UnitPost2 (x : Int) (w : World) (e : Ending) (w' : World) : Prop := ((0 ≤ x ∧ e = .returned (.tuple #[.int .i64 x, .bool true])) ∨ (x < 0 ∧ e = .returned (.tuple #[.int .i64 0, .bool false]))) ∧ w' = w
set_option maxRecDepth 100000 in
set_option maxHeartbeats 2000000 in
theorem unitAtS (s : ByteArray) (k : Nat) (w : World) (hs : s.size ≤ 140737488355328) (hk : k ≤ s.size) : Calls Tryd.prog 87 #[.string s, .int .i64 k] w (UnitPost2 (uV (s.data.toList.drop k)) w) := by
  have hl : (s.data.toList.drop k).length = s.size - k := by rw [List.length_drop, size_list]
  have hat : ∀ j (h : k + j < s.size), (((s[k + j]'h).toNat : Nat) : Int) = atL (s.data.toList.drop k) j := fun j h => by rw [at_eq s (k + j) h, atLd]
  have hat0 : ∀ (h : k < s.size), (((s[k]'h).toNat : Nat) : Int) = atL (s.data.toList.drop k) 0 := fun h => hat 0 h
  have hu : uV (s.data.toList.drop k) = if 6 ≤ (s.data.toList.drop k).length ∧ atL (s.data.toList.drop k) 0 = 92 ∧ atL (s.data.toList.drop k) 1 = 117 ∧ hexOk (s.data.toList.drop k) then hexV (s.data.toList.drop k) else -1 := rfl
  generalize s.data.toList.drop k = l at hl hat hat0 hu ⊢
  rw [hl] at hu
  by_cases a : k + 6 ≤ s.size
  · have h0 := hat0 (by omega)
    have h1 := hat 1 (by omega)
    by_cases c92 : atL l 0 = 92
    · rw [c92] at h0
      by_cases c117 : atL l 1 = 117
      · rw [c117] at h1
        have hgo : Hid (∀ j, j < 4 → ¬ 0 ≤ hx (atL l (2 + j)) → uV l = -1) := Lib.hid fun j hj hn => by
          rw [hu, if_neg]
          rintro ⟨_, _, _, q⟩
          exact hn ((pre_hexOk l).2 q j hj)
        have hfin : Hid (preOk l 4 → uV l = preV l 4) := Lib.hid fun q => by
          rw [hu, if_pos ⟨by omega, c92, c117, (pre_hexOk l).1 q⟩, pre_hexV]
        have HAT := Lib.hid hat
        have HX : Hid (∀ (x : Int) W, 0 ≤ x → x < 256 → Calls Tryd.prog 84 #[.int .u8 x] W (HexPost (hx x) W)) := Lib.hid fun x W a b => hexPlain x _ rfl a b W
        clear hat hat0 hu c92 c117 hl
        generalize uV l = u at hgo hfin ⊢
        go_enter Tryd.func87, Tryd.ntmps87
        go_wp2
        go_loop [6, 7] (fun n i => ∃ j : Nat, j ≤ 4 ∧ n = .int .i64 (preV l j) ∧ i = .int .i64 ((k + 2 + j : Nat) : Int) ∧ Hid (preOk l j)) (fun _ i => s.size - (intOf i).toNat)
        case atStart => exact ⟨0, by omega, rfl, by go_num, Lib.hid fun i hi => absurd hi (by omega)⟩
        case round =>
          obtain ⟨j, hj, rfl, rfl, hP⟩ := hrel
          have hr := preV_range l j hP.out hj
          by_cases hj4 : j < 4
          · have hks : k + 2 + j < s.size := by omega
            have hx1 := HAT.out (2 + j) (by omega)
            have hrx := hx_range (atL l (2 + j))
            have hra := atL_range l (2 + j)
            have hc : (((s[k + 2 + j]'hks).toNat : Nat) : Int) = atL l (2 + j) := by rw [← hx1]; congr 3; omega
            have h3 := hr.2.2 (by omega)
            have HXJ := Lib.hid (fun W => HX.out (atL l (2 + j)) W hra.1 hra.2)
            have HG := Lib.hid (hgo.out j hj4)
            have HS : Hid (0 ≤ hx (atL l (2 + j)) → preOk l (j + 1)) := Lib.hid fun q i hi => by
              by_cases e : i = j
              · subst e; exact q
              · exact hP.out i (by omega)
            have HV := Lib.hid (preV_succ l j)
            have hr1 := hr.1
            have hr2 := hr.2.1
            clear hx1 hr hra hgo
            generalize preV l j = p at *
            generalize hx (atL l (2 + j)) = x at *
            generalize atL l (2 + j) = c at *
            have hcast : ((k + 2 + j : Nat) : Int) = (k : Int) + 2 + j := by omega
            go_wp2_with fail
            refine (HXJ.out _).mono ?_
            rintro e w' ⟨rfl, rfl⟩
            by_cases q : 0 ≤ x
            · go_wp2
              go_round
              case rel => exact ⟨j + 1, by omega, by rw [HV.out], by go_num, HS.out q⟩
              case measure => simp [intOf]; omega
            · have hu := HG.out (by simpa using q)
              subst hu
              go_wp2
              go_ret2
              exact ⟨.inr ⟨by omega, rfl⟩, rfl⟩
          · obtain rfl : j = 4 := by omega
            have hu := hfin.out hP.out
            subst hu
            go_wp2
            go_ret2
            exact ⟨.inl ⟨hr.1, rfl⟩, rfl⟩
      · have hu' : uV l = -1 := by rw [hu, if_neg]; rintro ⟨_, _, q, _⟩; exact c117 q
        have h1' : ((((s[k + 1]'(by omega)).toNat : Nat) : Int) != 117) = true := by rw [h1]; simpa using c117
        rw [hu']
        clear hat hat0 hu hl h1 c117
        go_enter Tryd.func87, Tryd.ntmps87
        go_wp2
        go_ret2
        exact ⟨.inr ⟨by omega, rfl⟩, rfl⟩
    · have hu' : uV l = -1 := by rw [hu, if_neg]; rintro ⟨_, q, _, _⟩; exact c92 q
      have h0' : ((((s[k]'(by omega)).toNat : Nat) : Int) != 92) = true := by rw [h0]; simpa using c92
      rw [hu']
      clear hat hat0 hu hl h1 h0 c92
      go_enter Tryd.func87, Tryd.ntmps87
      go_wp2
      go_ret2
      exact ⟨.inr ⟨by omega, rfl⟩, rfl⟩
  · have hu' : uV l = -1 := by rw [hu, if_neg]; rintro ⟨q, _⟩; omega
    rw [hu']
    clear hat hat0 hu hl
    go_enter Tryd.func87, Tryd.ntmps87
    go_wp2
    go_ret2
    exact ⟨.inr ⟨by omega, rfl⟩, rfl⟩
end Go.Proofs.YtldcoaigecnpfaaDoor
