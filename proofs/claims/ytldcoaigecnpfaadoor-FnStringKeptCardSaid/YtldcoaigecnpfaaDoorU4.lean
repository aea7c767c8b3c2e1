/- Plain words: four hexadecimal digits. Of no program. -/
import Derived.Test.YtldcoaigecnpfaaDoorPlain
namespace Go.Proofs.YtldcoaigecnpfaaDoor
open Go.RowKit
def hexd (n : Nat) : Nat := if n < 10 then 48 + n else 87 + n
/-- An escape of four digits. -/
def u4 (n : Nat) : List UInt8 := [92, 117, UInt8.ofNat (hexd (n / 4096 % 16)), UInt8.ofNat (hexd (n / 256 % 16)), UInt8.ofNat (hexd (n / 16 % 16)), UInt8.ofNat (hexd (n % 16))]
theorem u4_length (n : Nat) : (u4 n).length = 6 := rfl
theorem hexd_lt (n : Nat) (h : n < 16) : hexd n < 256 := by unfold hexd; split <;> omega
def hexU : ByteArray := ⟨#[48, 49, 50, 51, 52, 53, 54, 55, 56, 57, 97, 98, 99, 100, 101, 102]⟩
theorem hexU_all : ∀ n : Fin 16, ((hexU[n.val]'(by have := n.isLt; exact this)).toNat : Nat) = hexd n.val := by decide
theorem hexU_at (n : Nat) (h : n < 16) (h' : n < hexU.size) : (((hexU[n]'h').toNat : Nat) : Int) = (hexd n : Int) := by
  have := hexU_all ⟨n, h⟩
  exact congrArg Int.ofNat this
end Go.Proofs.YtldcoaigecnpfaaDoor
