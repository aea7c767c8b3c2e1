/- The statement FnOldEscapeByte, walked: it returns true, and leaves all that lay below as it was. -/
import Derived.Test.YtegfdgmbhnfeeaaOldSafe
namespace Go.Proofs.Ytegfdgmbhnfeeaa
open Go.RowKit
/-- One byte as a text. -/
def oneB (c : Nat) : ByteArray := ⟨#[UInt8.ofNat c]⟩
theorem conv_byte (w : World) (c : Nat) (v : TypeId) : (convert 22 9 (.slice (some ⟨w.heap.size, 0, none⟩) 1 1)).run Try.prog (w.alloc (Obj.cells #[.int .u8 (c : Int)] v)) = .ok (.string (oneB c)) (w.alloc (Obj.cells #[.int .u8 (c : Int)] v)) := by
  have := run_convert_bytes_arg (P := Try.prog) (w.alloc (Obj.cells #[.int .u8 (c : Int)] v)) 22 5 Try.underlying22 Try.underlying5 w.heap.size 0 1 1 [(c : Int)] rfl (fun i hi => by
    match i, hi with
    | 0, _ => simp) 9 Try.underlying9
  simpa [strOfNums, oneB] using this
def escB (c : Nat) : ByteArray := if c = 60 then ⟨#[92, 117, 48, 48, 51, 99]⟩ else if c = 62 then ⟨#[92, 117, 48, 48, 51, 101]⟩ else if c = 38 then ⟨#[92, 117, 48, 48, 50, 54]⟩ else oneB c
theorem escB_all : ∀ c : Fin 256, (⟨(ByteArray.empty.data.toList ++ escF 0 (oneB c.val).data.toList).toArray⟩ : ByteArray) = escB c.val := by decide +kernel
theorem byte_wrap_all : ∀ c : Fin 256, IntKind.u8.wrap (c.val : Int) = (c.val : Int) := by decide +kernel
theorem safe_byte (c : Nat) (h : c < 256) (w : World) : Calls Try.prog 8 #[.string ByteArray.empty, .string (oneB c)] w fun e w' => e = .returned (.string (escB c)) ∧ Below w.heap.size w w' := by
  refine (oldSafe ByteArray.empty (oneB c) w (by decide) (by show 1 ≤ _; decide)).mono ?_
  rintro e w' ⟨rfl, hb⟩
  exact ⟨by rw [escB_all ⟨c, h⟩], hb⟩
theorem escB_no (c : Nat) (h1 : ¬ c = 60) (h2 : ¬ c = 62) (h3 : ¬ c = 38) : escB c = oneB c := by unfold escB; rw [if_neg h1, if_neg h2, if_neg h3]
set_option maxHeartbeats 1000000 in
theorem law_in (c : Nat) (h : c < 256) (w : World) :
    Calls Try.prog 3 #[.int .i64 c] w fun e w' => e = .returned (.bool true) ∧ Below w.heap.size w w' := by
  have hcv := fun v => conv_byte w c v
  have hs := safe_byte c h (w.alloc (Obj.cells #[.int .u8 (c : Int)] 5))
  have hwr := byte_wrap_all ⟨c, h⟩
  simp only at hwr
  have hlo : ¬ (c : Int) < 0 := by omega
  have hhi : ¬ (255 : Int) < (c : Int) := by omega
  have dlo : decide ((c : Int) < 0) = false := by simp
  have dhi : decide ((255 : Int) < (c : Int)) = false := by simp; omega
  by_cases h60 : c = 60
  · subst h60
    have e1 : escB 60 = ⟨#[92, 117, 48, 48, 51, 99]⟩ := rfl
    rw [e1] at hs
    have ec : ((60 : Nat) : Int) = 60 := rfl
    generalize oneB 60 = t at hcv hs
    simp only [ec] at hcv hs
    clear e1
    go_enter Try.func3, Try.ntmps3
    go_wp2_with fail
    refine hs.mono ?_
    rintro e w' ⟨rfl, hb⟩
    clear hs hcv
    go_wp2
    go_ret
    exact ⟨rfl, ((Below.refl _ _).alloc (Nat.le_refl _) _).trans (hb.mono (by simp))⟩
  · by_cases h62 : c = 62
    · subst h62
      have e1 : escB 62 = ⟨#[92, 117, 48, 48, 51, 101]⟩ := rfl
      rw [e1] at hs
      have ec : ((62 : Nat) : Int) = 62 := rfl
      generalize oneB 62 = t at hcv hs
      simp only [ec] at hcv hs
      clear e1
      go_enter Try.func3, Try.ntmps3
      go_wp2_with fail
      refine hs.mono ?_
      rintro e w' ⟨rfl, hb⟩
      clear hs hcv
      go_wp2
      go_ret
      exact ⟨rfl, ((Below.refl _ _).alloc (Nat.le_refl _) _).trans (hb.mono (by simp))⟩
    · by_cases h38 : c = 38
      · subst h38
        have e1 : escB 38 = ⟨#[92, 117, 48, 48, 50, 54]⟩ := rfl
        rw [e1] at hs
        have ec : ((38 : Nat) : Int) = 38 := rfl
        generalize oneB 38 = t at hcv hs
        simp only [ec] at hcv hs
        clear e1
        go_enter Try.func3, Try.ntmps3
        go_wp2_with fail
        refine hs.mono ?_
        rintro e w' ⟨rfl, hb⟩
        clear hs hcv
        go_wp2
        go_ret
        exact ⟨rfl, ((Below.refl _ _).alloc (Nat.le_refl _) _).trans (hb.mono (by simp))⟩
      · rw [escB_no c h60 h62 h38] at hs
        generalize oneB c = t at hcv hs
        have e1 : ((c : Int) == 60) = false := by simp; omega
        have e2 : ((c : Int) == 62) = false := by simp; omega
        have e3 : ((c : Int) == 38) = false := by simp; omega
        clear h60 h62 h38
        go_enter Try.func3, Try.ntmps3
        go_wp2_with fail
        refine hs.mono ?_
        rintro e w' ⟨rfl, hb⟩
        clear hs hcv
        go_wp2
        go_ret
        exact ⟨rfl, ((Below.refl _ _).alloc (Nat.le_refl _) _).trans (hb.mono (by simp))⟩
theorem fnOldEscapeByte_any (c : Int) (w : World) (_ : (Lit.int .i64 c).wf = true) :
    Calls Try.prog 3 #[.int .i64 c] w fun e w' => e = .returned (.bool true) ∧ Below w.heap.size w w' := by
  by_cases h : 0 ≤ c ∧ c < 256
  · obtain ⟨n, rfl⟩ : ∃ n : Nat, c = n := ⟨c.toNat, by omega⟩
    exact law_in n (by omega) w
  · by_cases h0 : c < 0
    · clear h
      go_enter Try.func3, Try.ntmps3
      go_wp2
      go_ret
      exact ⟨rfl, Below.refl _ _⟩
    · have h1 : 255 < c := by omega
      clear h
      go_enter Try.func3, Try.ntmps3
      go_wp2
      go_ret
      exact ⟨rfl, Below.refl _ _⟩
end Go.Proofs.Ytegfdgmbhnfeeaa
