/- The two laws on flags: FnAskFlags and FnSetFlags return true for every input. No condition. -/
import Derived.Test.YtbnnccadnnfomaaFlags
import Derived.WalkKit
import Derived.WalkLawsBesides
import Derived.WalkSpells
import Derived.BigQuiet
import Derived.Deep.RegionHeld3
import Derived.Lib.Hide
namespace Go.Proofs.Ytbnnccadnnfomaa
open Go.RowKit
namespace flags
theorem wrap_nat (n : Nat) (h : n < 18446744073709551616) : IntKind.u64.wrap (n : Int) = n := by rw [IntKind.wrap_u64]; omega
theorem ofInt_bits (x : BitVec 64) : BitVec.ofInt 64 (IntKind.u64.wrap (x.toNat : Int)) = x := by
  rw [wrap_nat _ (by have := x.isLt; omega)]
  apply BitVec.eq_of_toNat_eq
  rw [BitVec.toNat_ofInt]
  have := x.isLt
  omega
theorem and_xor (t i : Int) : bits BinOp.and IntKind.u64 t (bits BinOp.xor IntKind.u64 IntKind.u64.max i) = bits BinOp.andNot IntKind.u64 t i := by
  show IntKind.u64.wrap ↑(BitVec.ofInt 64 t &&& BitVec.ofInt 64 (IntKind.u64.wrap ↑(BitVec.ofInt 64 18446744073709551615 ^^^ BitVec.ofInt 64 i).toNat)).toNat = IntKind.u64.wrap ↑(BitVec.ofInt 64 t &&& ~~~ BitVec.ofInt 64 i).toNat
  rw [ofInt_bits, show BitVec.ofInt 64 18446744073709551615 = BitVec.allOnes 64 from rfl, BitVec.allOnes_xor]
theorem bits_bv (op : BinOp) (t i : Int) : ∃ X : BitVec 64, bits op IntKind.u64 t i = IntKind.u64.wrap (X.toNat : Int) := ⟨_, rfl⟩
theorem or_zero (op : BinOp) (t i : Int) : bits BinOp.or IntKind.u64 (bits op IntKind.u64 t i) 0 = bits op IntKind.u64 t i := by
  obtain ⟨X, hX⟩ := bits_bv op t i
  rw [hX]
  show IntKind.u64.wrap ↑(BitVec.ofInt 64 (IntKind.u64.wrap (X.toNat : Int)) ||| BitVec.ofInt 64 0).toNat = _
  rw [ofInt_bits, show BitVec.ofInt 64 0 = 0#64 from rfl, BitVec.or_zero]
theorem bits_wrap (op : BinOp) (t i : Int) : IntKind.u64.wrap (bits op IntKind.u64 t i) = bits op IntKind.u64 t i := by
  obtain ⟨X, hX⟩ := bits_bv op t i
  rw [hX, IntKind.wrap_u64, IntKind.wrap_u64]; omega
theorem low (b : Int) : bits BinOp.and IntKind.u64 b 1 = 0 ∨ bits BinOp.and IntKind.u64 b 1 = 1 := by
  show IntKind.u64.wrap ↑(BitVec.ofInt 64 b &&& BitVec.ofInt 64 1).toNat = 0 ∨ IntKind.u64.wrap ↑(BitVec.ofInt 64 b &&& BitVec.ofInt 64 1).toNat = 1
  rw [wrap_nat _ (by have := (BitVec.ofInt 64 b &&& BitVec.ofInt 64 1).isLt; omega), BitVec.toNat_and, show (BitVec.ofInt 64 1).toNat = 1 from rfl, Nat.and_one_is_mod]
  omega

/-- What Set makes of the values. -/
def setVal (t b : Int) : Int := bits BinOp.or IntKind.u64 (bits BinOp.and IntKind.u64 t (bits BinOp.xor IntKind.u64 IntKind.u64.max (bits BinOp.andNot IntKind.u64 b 1))) (IntKind.u64.wrap (bits BinOp.and IntKind.u64 b 1 * bits BinOp.andNot IntKind.u64 b 1))
theorem setVal_no (t b : Int) (h : bits BinOp.and IntKind.u64 b 1 = 0) : setVal t b = bits BinOp.andNot IntKind.u64 t (bits BinOp.andNot IntKind.u64 b 1) := by
  unfold setVal
  rw [and_xor, h, Int.zero_mul, show IntKind.u64.wrap 0 = 0 from rfl, or_zero]
theorem setVal_yes (t b : Int) (h : bits BinOp.and IntKind.u64 b 1 = 1) : setVal t b = bits BinOp.or IntKind.u64 (bits BinOp.andNot IntKind.u64 t (bits BinOp.andNot IntKind.u64 b 1)) (bits BinOp.andNot IntKind.u64 b 1) := by
  unfold setVal
  rw [and_xor, h, Int.one_mul, bits_wrap]

theorem doSet (g t b : Int) (B : Nat) (w : World) (hg : w.cell? ⟨B, 0, none⟩ = some (.int .u64 g)) (ht : w.cell? ⟨B, 1, none⟩ = some (.int .u64 t)) (f0 : w.frozen? ⟨B, 0, none⟩ = false) (f1 : w.frozen? ⟨B, 1, none⟩ = false) :
    Calls Try.prog 27 #[.pointer (some ⟨B, 0, none⟩), .int .u64 b] w fun e w' => e = .returned (.tuple #[]) ∧ w'.cell? ⟨B, 0, none⟩ = some (.int .u64 (bits BinOp.or IntKind.u64 g (bits BinOp.andNot IntKind.u64 b 1))) ∧ w'.cell? ⟨B, 1, none⟩ = some (.int .u64 (setVal t b)) ∧ Below B w w' := by
  go_enter Try.func27, Try.ntmps27
  go_wp2
  go_end0
  refine ⟨rfl, ?_, ?_, Below.setCell (p := ⟨B, 1, none⟩) (Below.setCell (p := ⟨B, 1, none⟩) (Below.setCell (p := ⟨B, 0, none⟩) (Below.refl B w) (Nat.le_refl B) _) (Nat.le_refl B) _) (Nat.le_refl B) _⟩
  · simp [go_sem, *]
  · exact World.cell?_setCell_same _ _ _ (World.cell?_setCell_same _ _ _ ((World.cell?_setCell_other _ _ _ _ (by simp)).trans ht))
theorem set (g t b : Int) (w : World) :
    Calls Try.prog 18 #[.agg #[.int .u64 g, .int .u64 t], .int .u64 b] w fun e w' => e = .returned (.agg #[.int .u64 (bits BinOp.or IntKind.u64 g (bits BinOp.andNot IntKind.u64 b 1)), .int .u64 (setVal t b)]) ∧ Below w.heap.size w w' := by
  go_enter Try.func18, Try.ntmps18
  go_wp2_with (go_at_call 19; refine (kept _ _ _).mono ?_; rintro e w1 ⟨rfl, hb⟩)
  refine (doSet g t b w1.heap.size _ (by simp [go_sem]) (by simp [go_sem]) (by simp [go_sem]) (by simp [go_sem])).mono ?_
  rintro e w2 ⟨rfl, c0, c1, hb2⟩
  have k1 : w1.cell? ⟨w.heap.size + 1, 0, none⟩ = some (.int .u64 0) ∧ w1.cell? ⟨w.heap.size + 1, 1, none⟩ = some (.int .u64 0) ∧ w.heap.size + 1 < w1.heap.size ∧ w1.frozen? ⟨w.heap.size + 1, 0, none⟩ = false ∧ w1.frozen? ⟨w.heap.size + 1, 1, none⟩ = false :=
    ⟨(hb.cell (p := ⟨w.heap.size + 1, 0, none⟩) (by simp)).trans (by simp [go_sem]), (hb.cell (p := ⟨w.heap.size + 1, 1, none⟩) (by simp)).trans (by simp [go_sem]), by have := hb.size; simp at this; omega,
      (hb.frozen (p := ⟨w.heap.size + 1, 0, none⟩) (by simp)).trans (by simp [go_sem]), (hb.frozen (p := ⟨w.heap.size + 1, 1, none⟩) (by simp)).trans (by simp [go_sem])⟩
  obtain ⟨k10, k11, ks, f10, f11⟩ := k1
  have k2 : ∀ W : World, Below w1.heap.size w1 W → W.cell? ⟨w.heap.size + 1, 0, none⟩ = some (.int .u64 0) ∧ W.cell? ⟨w.heap.size + 1, 1, none⟩ = some (.int .u64 0) ∧ W.frozen? ⟨w.heap.size + 1, 0, none⟩ = false ∧ W.frozen? ⟨w.heap.size + 1, 1, none⟩ = false := fun W hW =>
    ⟨(hW.cell (p := ⟨w.heap.size + 1, 0, none⟩) ks).trans k10, (hW.cell (p := ⟨w.heap.size + 1, 1, none⟩) ks).trans k11, (hW.frozen (p := ⟨w.heap.size + 1, 0, none⟩) ks).trans f10, (hW.frozen (p := ⟨w.heap.size + 1, 1, none⟩) ks).trans f11⟩
  have hb12 : Below w1.heap.size w1 w2 := ((Below.refl _ _).alloc (Nat.le_refl _) _).trans hb2
  go_wp2_with (go_at_call 28; refine (told _ _ _).mono ?_; rintro e w3 ⟨rfl, hb3⟩; obtain ⟨q0, q1, q2, q3⟩ := k2 w3 (hb12.trans (hb3.mono (by have := hb12.size; omega))))
  refine bodyPost_ret (v := .agg #[.int .u64 (bits BinOp.or IntKind.u64 g (bits BinOp.andNot IntKind.u64 b 1)), .int .u64 (setVal t b)]) (by simp [results, Try.results18, go_sem, *]) rfl ⟨rfl, ?_⟩
  have h1 : Below w.heap.size w w1 := (((Below.refl _ _).alloc (Nat.le_refl _) _).alloc (by simp) _).trans (hb.mono (by simp; omega))
  have h2 : Below w.heap.size w w3 := (h1.trans (hb12.mono (by omega))).trans (hb3.mono (by have := hb12.size; omega))
  exact Below.setCell (p := ⟨w.heap.size + 1, 1, none⟩) (Below.setCell (p := ⟨w.heap.size + 1, 0, none⟩) h2 (by simp) _) (by simp) _

theorem law_false (g t b : Int) (w : World) (h : fok g t = false) :
    Calls Try.prog 7 #[.agg #[.int .u64 g, .int .u64 t], .int .u64 b] w fun e w' => e = .returned (.bool true) ∧ Below w.heap.size w w' := by
  go_enter Try.func7, Try.ntmps7
  go_wp2_with (go_at_call 8; refine (ok_false _ _ _ h).mono ?_; rintro e w1 ⟨rfl, hb⟩)
  go_ret
  exact ⟨rfl, ((Below.refl _ _).alloc (Nat.le_refl _) _).trans (hb.mono (by simp))⟩
theorem law_yes (g t b : Int) (w : World) (h : fok g t = true) (hl : bits BinOp.and IntKind.u64 b 1 = 1) :
    Calls Try.prog 7 #[.agg #[.int .u64 g, .int .u64 t], .int .u64 b] w fun e w' => e = .returned (.bool true) ∧ Below w.heap.size w w' := by
  have hv := setVal_yes t b hl
  go_enter Try.func7, Try.ntmps7
  go_wp2_with (first | (go_at_call 8; refine (ok_true _ _ _ h).mono ?_; rintro e w1 ⟨rfl, hb⟩; have K := keep_first g t w w1 hb) | (go_at_call 18; refine (set _ _ _ _).mono ?_; rintro e w2 ⟨rfl, hb2⟩; have K2 := keep_call K hb2))
  go_ret
  exact ⟨rfl, (K2.2.2.1.alloc (by have := K2.2.2.2; omega) _).alloc (by have := K2.2.2.2; simp; omega) _⟩
theorem law_no (g t b : Int) (w : World) (h : fok g t = true) (hl : bits BinOp.and IntKind.u64 b 1 = 0) :
    Calls Try.prog 7 #[.agg #[.int .u64 g, .int .u64 t], .int .u64 b] w fun e w' => e = .returned (.bool true) ∧ Below w.heap.size w w' := by
  have hv := setVal_no t b hl
  go_enter Try.func7, Try.ntmps7
  go_wp2_with (first | (go_at_call 8; refine (ok_true _ _ _ h).mono ?_; rintro e w1 ⟨rfl, hb⟩; have K := keep_first g t w w1 hb) | (go_at_call 18; refine (set _ _ _ _).mono ?_; rintro e w2 ⟨rfl, hb2⟩; have K2 := keep_call K hb2))
  go_ret
  exact ⟨rfl, (K2.2.2.1.alloc (by have := K2.2.2.2; omega) _).alloc (by have := K2.2.2.2; simp; omega) _⟩
end flags
end Go.Proofs.Ytbnnccadnnfomaa
