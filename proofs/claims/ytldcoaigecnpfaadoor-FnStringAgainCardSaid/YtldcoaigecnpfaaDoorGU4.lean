/- Plain words: four hexadecimal digits. Of no program. The reference's unitText (an escape of four digits), walked. -/
import Derived.Test.YtldcoaigecnpfaaDoorGClose
import Derived.Test.YtldcoaigecnpfaaDoorGBytes
import Derived.Laws.BitsLemmas
import Derived.Laws.BitsAllLaws
import Derived.Lib.Hide
import Derived.WalkLawsBesides
import Derived.Deep.RegionLaw
import Derived.Laws.BytesArg
namespace Go.Proofs.YtldcoaigecnpfaaDoor
open Go.RowKit
def hexd (n : Nat) : Nat := if n < 10 then 48 + n else 87 + n
/-- An escape of four digits. -/
def u4 (n : Nat) : List UInt8 := [92, 117, UInt8.ofNat (hexd (n / 4096 % 16)), UInt8.ofNat (hexd (n / 256 % 16)), UInt8.ofNat (hexd (n / 16 % 16)), UInt8.ofNat (hexd (n % 16))]
theorem u4_length (n : Nat) : (u4 n).length = 6 := rfl
theorem hexd_lt (n : Nat) (h : n < 16) : hexd n < 256 := by unfold hexd; split <;> omega
def hexU : ByteArray := ⟨#[48, 49, 50, 51, 52, 53, 54, 55, 56, 57, 97, 98, 99, 100, 101, 102]⟩
theorem hexU_all : ∀ n : Fin 16, ((hexU[n.val]'(by have := n.isLt; exact this)).toNat : Nat) = hexd n.val := by decide
theorem hexU_at (n : Nat) (h : n < 16) (h' : n < hexU.size) : (((hexU[n]'h').toNat : Nat) : Int) = (hexd n : Int) := by
  have := hexU_all ⟨n, h⟩
  exact congrArg Int.ofNat this
end Go.Proofs.YtldcoaigecnpfaaDoor
namespace Go.Proofs.YtldcoaigecnpfaaDoor
open Go.RowKit
theorem digit (n : Nat) (hn : n < 16) (w : World) : Calls Tryd.prog 66 #[.int .i64 n] w fun e w' => e = .returned (.int .u8 (hexd n)) ∧ w = w' := by
  have hn' : (n : Int) < 16 := by omega
  have hi : ∀ h, ((((⟨#[48, 49, 50, 51, 52, 53, 54, 55, 56, 57, 97, 98, 99, 100, 101, 102]⟩ : ByteArray)[n]'h).toNat : Nat) : Int) = (hexd n : Int) := fun h => hexU_at n hn h
  go_enter Tryd.func66, Tryd.ntmps66
  go_wp2
  go_ret
  exact ⟨rfl, rfl⟩
theorem i64_nib (x : Int) (h0 : 0 ≤ x) (h1 : x < 4294967296) : bits BinOp.and IntKind.i64 x 15 = x % 16 := bits_mask .i64 32 (by decide) (by intro n h0 h1; rw [IntKind.wrap_i64]; omega) 4 (by decide) x h0 h1
def TextPost (L : List UInt8) (w : World) (e : Ending) (w' : World) : Prop := e = .returned (.string ⟨L.toArray⟩) ∧ Below w.heap.size w w'
set_option maxRecDepth 100000 in
set_option maxHeartbeats 2000000 in
theorem unitText (x : Nat) (hx : x < 65536) (w : World) : Calls Tryd.prog 46 #[.int .i64 x] w (TextPost (u4 x) w) := by
  have e2 : bits BinOp.and IntKind.i64 ((x : Int) / 256) 15 = ((x / 256 % 16 : Nat) : Int) := by rw [i64_nib _ (by omega) (by omega)]; omega
  have e3 : bits BinOp.and IntKind.i64 ((x : Int) / 16) 15 = ((x / 16 % 16 : Nat) : Int) := by rw [i64_nib _ (by omega) (by omega)]; omega
  have e4 : bits BinOp.and IntKind.i64 (x : Int) 15 = ((x % 16 : Nat) : Int) := by rw [i64_nib _ (by omega) (by omega)]; omega
  have e1 : (x : Int) / 4096 = ((x / 4096 % 16 : Nat) : Int) := by omega
  have hu : Hid (u4 x = [92, 117, UInt8.ofNat (hexd (x / 4096 % 16)), UInt8.ofNat (hexd (x / 256 % 16)), UInt8.ofNat (hexd (x / 16 % 16)), UInt8.ofNat (hexd (x % 16))]) := rfl
  obtain ⟨a, ha, ea⟩ : ∃ a, a < 16 ∧ x / 4096 % 16 = a := ⟨_, Nat.mod_lt _ (by omega), rfl⟩
  obtain ⟨b, hb, eb⟩ : ∃ a, a < 16 ∧ x / 256 % 16 = a := ⟨_, Nat.mod_lt _ (by omega), rfl⟩
  obtain ⟨c, hc, ec⟩ : ∃ a, a < 16 ∧ x / 16 % 16 = a := ⟨_, Nat.mod_lt _ (by omega), rfl⟩
  obtain ⟨d, hd, ed⟩ : ∃ a, a < 16 ∧ x % 16 = a := ⟨_, Nat.mod_lt _ (by omega), rfl⟩
  rw [ea] at e1 hu
  rw [eb] at e2 hu
  rw [ec] at e3 hu
  rw [ed] at e4 hu
  clear ea eb ec ed
  have en : nums (u4 x) = [.int .u8 92, .int .u8 117, .int .u8 (hexd a), .int .u8 (hexd b), .int .u8 (hexd c), .int .u8 (hexd d)] := by
    rw [hu.out]
    have q : ∀ n, n < 16 → (UInt8.ofNat (hexd n)).toNat = hexd n := fun n hn => by
      have := hexd_lt n hn
      rw [UInt8.toNat_ofNat']; omega
    simp only [nums, List.map_cons, List.map_nil, q a ha, q b hb, q c hc, q d hd]
    rfl
  have hn : ∀ W : World, (convert 23 9 (.slice (some ⟨W.heap.size, 0, none⟩) 6 6)).run Tryd.prog (W.alloc (Obj.cells #[.int .u8 92, .int .u8 117, .int .u8 (hexd a), .int .u8 (hexd b), .int .u8 (hexd c), .int .u8 (hexd d)] 5)) = .ok (.string ⟨(u4 x).toArray⟩) (W.alloc (Obj.cells #[.int .u8 92, .int .u8 117, .int .u8 (hexd a), .int .u8 (hexd b), .int .u8 (hexd c), .int .u8 (hexd d)] 5)) := fun W => by
    have hB : Buf (W.alloc (Obj.cells (nums (u4 x)).toArray 5)) W.heap.size none (.slice (some ⟨W.heap.size, 0, none⟩) (u4 x).length 6) (u4 x) :=
      .inr ⟨W.heap.size, 0, 6, _, (0, 0), rfl, .inl (Nat.le_refl _), alloc_new W _, Nat.le_refl _, by decide, by rw [en]; exact Nat.le_refl 6, .inl (Nat.zero_le _), fun j hj => by rw [Nat.zero_add, List.getElem?_toArray]; exact nums_get _ j hj⟩
    have := hB.text
    rw [en] at this
    exact this
  have D1 := Lib.hid (fun W => digit a ha W)
  have D2 := Lib.hid (fun W => digit b hb W)
  have D3 := Lib.hid (fun W => digit c hc W)
  have D4 := Lib.hid (fun W => digit d hd W)
  have hnw := hn w
  clear hu en hn
  generalize u4 x = E at hnw ⊢
  go_enter Tryd.func46, Tryd.ntmps46
  go_wp2_with fail
  refine (D1.out _).mono ?_
  rintro e w' ⟨rfl, rfl⟩
  go_wp2_with fail
  refine (D2.out _).mono ?_
  rintro e w' ⟨rfl, rfl⟩
  go_wp2_with fail
  refine (D3.out _).mono ?_
  rintro e w' ⟨rfl, rfl⟩
  go_wp2_with fail
  refine (D4.out _).mono ?_
  rintro e w' ⟨rfl, rfl⟩
  go_wp2
  go_ret
  exact ⟨rfl, (Below.refl _ _).alloc (Nat.le_refl _) _⟩
end Go.Proofs.YtldcoaigecnpfaaDoor
