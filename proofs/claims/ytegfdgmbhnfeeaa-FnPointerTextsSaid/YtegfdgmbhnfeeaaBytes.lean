/- A text's bytes in new memory: what the conversion to a slice of bytes leaves. -/
import Derived.Test.YtegfdgmbhnfeeaaProg
import Derived.Test.YtegfdgmbhnfeeaaPlain
import Derived.Lib.ConvBytes
import Derived.WalkSpells
namespace Go.Proofs.Ytegfdgmbhnfeeaa
open Go.RowKit
/-- Bytes in the cells of a row. -/
def BytesAt (w : World) (g o : Nat) (l : List UInt8) : Prop := ∀ j, j < l.length → w.cell? ⟨g, o + j, none⟩ = some (.int .u8 (atL l j))
/-- The world behind the conversion, under a name that the walk does not open. -/
def convWorld (w : World) (s : ByteArray) : World := Lib.bytesWorld w 5 s
def convCap (w : World) (s : ByteArray) : Nat := grownCap w s.size 0 5
theorem run_conv (s : ByteArray) (w : World) : (convert 9 22 (.string s)).run Try.prog w = .ok (.slice (some ⟨w.heap.size, 0, none⟩) s.size (convCap w s)) (convWorld w s) :=
  Lib.run_convert_string_bytes w 9 22 5 s Try.underlying9 Try.underlying22 Try.underlying5
theorem conv_below (s : ByteArray) (w : World) : Below w.heap.size w (convWorld w s) := by
  refine ⟨rfl, rfl, rfl, ?_, fun k hk => Lib.bytesWorld_at_old w _ s k hk⟩
  show _ ≤ (Lib.bytesWorld w 5 s).heap.size
  rw [Lib.bytesWorld_size]; omega
theorem conv_size (s : ByteArray) (w : World) : (convWorld w s).heap.size = w.heap.size + 1 := Lib.bytesWorld_size w _ s
theorem conv_bytes (s : ByteArray) (w : World) : BytesAt (convWorld w s) w.heap.size 0 s.data.toList := fun j hj => by
  rw [Nat.zero_add]
  exact Lib.bytesWorld_cell w _ s j (by rw [← size_list]; exact hj)
theorem BytesAt.below {w w' : World} {g o : Nat} {l : List UInt8} (h : BytesAt w g o l) (hb : Below w.heap.size w w') (hg : g < w.heap.size) : BytesAt w' g o l := fun j hj => (hb.cell (p := ⟨g, o + j, none⟩) hg).trans (h j hj)
end Go.Proofs.Ytegfdgmbhnfeeaa
