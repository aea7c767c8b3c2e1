/- impl.OldEscape, walked. -/
import Derived.Test.YtklncgmfbflooaaDoorHtmlBuf
namespace Go.Proofs.YtklncgmfbflooaaDoor
open Go.RowKit
set_option maxHeartbeats 2000000 in
theorem oldEscape (to text : ByteArray) (w : World) (h1 : to.size ≤ 1000) (h2 : text.size ≤ 1000) (h3 : 1 ≤ text.size) :
    Calls Tryd.prog 11 #[.string to, .string text] w (SafePost (to.data.toList ++ escF 0 text.data.toList) w) := by
  have HN := Lib.hid (newBufferS to w h1)
  have hl1 := size_list to
  have hl2 := size_list text
  have HE : Hid (∀ W c, BHead W (w.heap.size + 1) (.slice (some ⟨w.heap.size, 0, none⟩) to.data.toList.length c) → Buf W 0 none (.slice (some ⟨w.heap.size, 0, none⟩) to.data.toList.length c) to.data.toList → to.data.toList.length ≤ c → c ≤ maxLen → Below w.heap.size w W →
      Calls Tryd.prog 25 #[.pointer (some ⟨w.heap.size + 1, 0, none⟩), .slice (some ⟨W.heap.size, 0, none⟩) text.size (convCap W text)] (convWorld W text) (fun e W2 => e = .returned (.tuple #[]) ∧ Calls Tryd.prog 26 #[.pointer (some ⟨w.heap.size + 1, 0, none⟩)] W2 (SafePost (to.data.toList ++ escF 0 text.data.toList) w))) := fun W c a b d f g => by
    have hbel := conv_below text W
    have hp := a.lt
    have hz := conv_size text W
    have a2 := a.below hbel
    have b2 : Buf (convWorld W text) 0 none (.slice (some ⟨w.heap.size, 0, none⟩) to.data.toList.length c) to.data.toList := b.below hbel (fun k e => by simp [Value.ownBlock] at e; omega)
    have := htmlEscapeS (w.heap.size + 1) w.heap.size 0 c W.heap.size (convCap W text) to.data.toList text.data.toList (convWorld W text) a2 b2 (by omega) d f (by omega) (conv_bytes text W) (by omega) (by omega) (by rw [hl2]; exact convCap_ge _ _) (convCap_le _ _ (by unfold maxLen; omega)) (by omega) (by omega) (by omega)
    rw [hl2] at this
    refine this.mono ?_
    rintro e W2 ⟨g1, o1, c1, rfl, s1, s2, s3, s4⟩
    refine ⟨rfl, ?_⟩
    refine (stringS _ g1 o1 c1 _ W2 s1 s2 s3).mono ?_
    rintro e W3 ⟨rfl, k, rfl⟩
    have hq : Below w.heap.size w W2 := by
      have t := g.trans (hbel.mono g.size)
      exact ⟨s4.os.trans t.os, s4.tape.trans t.tape, s4.output.trans t.output, Nat.le_trans t.size s4.size, fun k hk => (s4.block k (by have := t.size; omega) (by omega) (by omega)).trans (t.block k hk)⟩
    refine ⟨rfl, ?_⟩
    cases k with
    | zero => exact hq
    | succ k => exact ⟨hq.os, hq.tape, hq.output, hq.size, hq.block⟩
  have hcv := fun W => run_conv text W
  clear hl1 hl2 h1 h2 h3
  go_enter Tryd.func11, Tryd.ntmps11
  go_wp2_with fail
  refine HN.out.mono ?_
  rintro e w1 ⟨c, rfl, a, b, d, f, g⟩
  have HE1 := Lib.hid (HE.out w1 c a b d f g)
  clear HE a b d f g HN
  go_wp2_with fail
  refine HE1.out.mono ?_
  rintro e w2 ⟨rfl, hS⟩
  have HS := Lib.hid hS
  clear hS HE1
  go_wp2_with fail
  refine HS.out.mono ?_
  rintro e w3 ⟨rfl, hb⟩
  clear HS
  go_wp2
  go_ret
  exact ⟨rfl, hb⟩
end Go.Proofs.YtklncgmfbflooaaDoor
