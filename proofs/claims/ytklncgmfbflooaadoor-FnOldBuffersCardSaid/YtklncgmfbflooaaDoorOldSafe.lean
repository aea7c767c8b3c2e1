/- impl.OldSafe (encoding/json's escaping of a text behind other bytes), walked. -/
import Derived.Test.YtklncgmfbflooaaDoorHtml
namespace Go.Proofs.YtklncgmfbflooaaDoor
open Go.RowKit
theorem conv_lt (s : ByteArray) (w : World) : w.heap.size < (convWorld w s).heap.size := by rw [conv_size]; omega
theorem convCap_le (w : World) (s : ByteArray) (h : s.size ≤ maxLen) : convCap w s ≤ maxLen := grownCap_le_maxLen _ _ _ _ h
theorem convCap_ge (w : World) (s : ByteArray) : s.size ≤ convCap w s := grownCap_ge _ _ _ _
def HtmlPost2 (base : Nat) (G : Option (Nat × Nat)) (L : List UInt8) (w : World) (e : Ending) (w' : World) : Prop := HtmlPost base G L w e w'
theorem zzHTML (base : Nat) (G : Option (Nat × Nat)) (v : Value) (l : List UInt8) (g cap : Nat) (m : List UInt8) (w : World) (hB : Buf w base G v l) (hm : BytesAt w g 0 m) (hcap : m.length ≤ cap) (_hcm : cap ≤ maxLen)
    (hsz : l.length + 6 * m.length ≤ 140737488355328) (hbase : base ≤ w.heap.size) (hG : ∀ g o, G = some (g, o) → g < base) (hg : g < base) (hgG : ∀ o, G ≠ some (g, o)) :
    Calls Tryd.prog 31 #[v, .slice (some ⟨g, 0, none⟩) m.length cap] w (HtmlPost base G (l ++ escF 0 m) w) := by
  have hc := appendHTML base G v l g cap m w hB hm hcap _hcm hsz hbase hG hg hgG
  generalize l ++ escF 0 m = L at hc ⊢
  generalize m.length = n at hc ⊢
  clear hB hm hcap _hcm hsz hbase hG hg hgG
  go_enter Tryd.func31, Tryd.ntmps31
  go_wp2_with fail
  refine hc.mono ?_
  rintro e w' ⟨v', rfl, hb', hf'⟩
  clear hc
  go_wp2
  go_ret
  exact ⟨v', rfl, hb', hf'⟩
/-- The world with both texts' bytes. -/
def twoW (w : World) (to text : ByteArray) : World := convWorld (convWorld w to) text
theorem twoW_size (w : World) (to text : ByteArray) : (twoW w to text).heap.size = w.heap.size + 2 := by unfold twoW; rw [conv_size, conv_size]
theorem twoW_below (w : World) (to text : ByteArray) : Below w.heap.size w (twoW w to text) := by
  have h1 := conv_below to w
  have h2 := conv_below text (convWorld w to)
  exact h1.trans (h2.mono (by rw [conv_size]; omega))
theorem safe_ready (w : World) (to text : ByteArray) (h1 : to.size ≤ 1000) (h2 : text.size ≤ 2000000) :
    Calls Tryd.prog 31 #[.slice (some ⟨w.heap.size, 0, none⟩) to.size (convCap w to), .slice (some ⟨(convWorld w to).heap.size, 0, none⟩) text.size (convCap (convWorld w to) text)] (twoW w to text)
      (HtmlPost (w.heap.size + 2) (some (w.heap.size, 0)) (to.data.toList ++ escF 0 text.data.toList) (twoW w to text)) := by
  have hb := conv_buf to w (by unfold maxLen; omega)
  have hb2 : Buf (twoW w to text) w.heap.size none (.slice (some ⟨w.heap.size, 0, none⟩) to.size (convCap w to)) to.data.toList := hb.below (conv_below text (convWorld w to)) (fun g e => by simp [Value.ownBlock] at e; rw [conv_size]; omega)
  have hb3 := hb2.rebase
  rw [twoW_size] at hb3
  have := zzHTML (w.heap.size + 2) (some (w.heap.size, 0)) _ to.data.toList (convWorld w to).heap.size (convCap (convWorld w to) text) text.data.toList (twoW w to text) hb3 (conv_bytes text (convWorld w to)) (by rw [size_list]; exact convCap_ge _ _) (convCap_le _ _ (by unfold maxLen; omega))
    (by rw [size_list, size_list]; omega) (by rw [twoW_size]; omega) (by intro g o e; injection e with e; injection e with e1 e2; omega) (by rw [conv_size]; omega) (by intro o e; rw [conv_size] at e; injection e with e; injection e with e1 e2; omega)
  rw [size_list] at this
  exact this
def SafePost (L : List UInt8) (w : World) (e : Ending) (w' : World) : Prop := e = .returned (.string ⟨L.toArray⟩) ∧ Below w.heap.size w w'
theorem oldSafe (to text : ByteArray) (w : World) (h1 : to.size ≤ 1000) (h2 : text.size ≤ 2000000) :
    Calls Tryd.prog 15 #[.string to, .string text] w (SafePost (to.data.toList ++ escF 0 text.data.toList) w) := by
  have hc := safe_ready w to text h1 h2
  have hcv := run_conv to w
  have hcv2 := run_conv text (convWorld w to)
  have ht : convWorld (convWorld w to) text = twoW w to text := rfl
  rw [ht] at hcv2
  have hbel := twoW_below w to text
  have hts := twoW_size w to text
  generalize twoW w to text = W at hc hcv2 hbel hts
  generalize convWorld w to = W1 at hc hcv hcv2
  generalize to.data.toList ++ escF 0 text.data.toList = L at hc ⊢
  generalize convCap W1 text = c2 at hc hcv2
  generalize convCap w to = c1 at hc hcv
  have HB := Lib.hid hbel
  have HS := Lib.hid hts
  clear ht h1 h2 hbel hts
  go_enter Tryd.func15, Tryd.ntmps15
  go_wp2_with fail
  refine hc.mono ?_
  rintro e w' ⟨v', rfl, hb', hf'⟩
  clear hc hcv hcv2
  have htx := hb'.text
  have hfin : Below w.heap.size w w' := by
    have h1 := HB.out
    have h2 := HS.out
    refine ⟨hf'.os.trans h1.os, hf'.tape.trans h1.tape, hf'.output.trans h1.output, by have := hf'.size; omega, fun k hk => (hf'.block k (by omega) fun o e => by injection e with e; injection e with e1 e2; omega).trans (h1.block k hk)⟩
  clear hb' hf'
  go_wp2
  go_ret
  exact ⟨rfl, hfin⟩
end Go.Proofs.YtklncgmfbflooaaDoor
