/- bytes.NewBufferString, walked. -/
import Derived.Test.YtklncgmfbflooaaDoorBufGrow
import Derived.Test.YtklncgmfbflooaaDoorOldSafe
namespace Go.Proofs.YtklncgmfbflooaaDoor
open Go.RowKit
def NewPost (L : List UInt8) (w : World) (e : Ending) (w' : World) : Prop :=
  ∃ c, e = .returned (.pointer (some ⟨w.heap.size + 1, 0, none⟩)) ∧ BHead w' (w.heap.size + 1) (.slice (some ⟨w.heap.size, 0, none⟩) L.length c) ∧ Buf w' 0 none (.slice (some ⟨w.heap.size, 0, none⟩) L.length c) L ∧ L.length ≤ c ∧ c ≤ maxLen ∧ Below w.heap.size w w'
set_option maxHeartbeats 1000000 in
theorem newBufferS (s : ByteArray) (w : World) (hs : s.size ≤ 1000) : Calls Tryd.prog 24 #[.string s] w (NewPost s.data.toList w) := by
  have hb := conv_buf s w (by unfold maxLen; omega)
  have hcv := run_conv s w
  have hbel := conv_below s w
  have hz := conv_size s w
  have h1 := convCap_ge w s
  have h2 := convCap_le w s (by unfold maxLen; omega)
  generalize convWorld w s = W at hb hcv hbel hz
  generalize convCap w s = c at hb hcv h1 h2
  have hfin : Hid (NewPost s.data.toList w (.returned (.pointer (some ⟨W.heap.size, 0, none⟩))) (W.alloc (Obj.cells #[.slice (some ⟨w.heap.size, 0, none⟩) s.size c, .int .i64 0, .int .i8 0] 81))) := by
    have hblk := alloc_new W (Obj.cells #[.slice (some ⟨w.heap.size, 0, none⟩) s.size c, .int .i64 0, .int .i8 0] 81)
    have hsl : s.data.toList.length = s.size := size_list s
    refine ⟨c, by rw [hz], ?_, ?_, by rw [hsl]; exact h1, h2, hbel.trans (((Below.refl _ _).alloc (Nat.le_refl _) _).mono (by omega))⟩
    · rw [hsl, ← hz]
      refine ⟨cell_of_row _ _ 0 _ _ _ hblk, cell_of_row _ _ 1 _ _ _ hblk, ⟨0, cell_of_row _ _ 2 _ _ _ hblk⟩, fun j => by simp only [World.frozen?, hblk, Bool.and_eq_false_iff, decide_eq_false_iff_not]; omega, by simp⟩
    · rw [hsl]
      have f0 : Buf W 0 none (.slice (some ⟨w.heap.size, 0, none⟩) s.size c) s.data.toList := by
        rcases hb with ⟨e, _⟩ | ⟨g', o', cap, cur, fz, e, _, rest⟩
        · cases e
        · exact .inr ⟨g', o', cap, cur, fz, e, .inl (Nat.zero_le _), rest⟩
      exact f0.alloc _
  clear hb hbel hz h1 h2
  go_enter Tryd.func24, Tryd.ntmps24
  go_wp2
  go_ret
  exact hfin.out
end Go.Proofs.YtklncgmfbflooaaDoor
