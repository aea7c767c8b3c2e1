/- impl.OldQuote for HTML behind no other bytes, walked. -/
import Derived.Test.YtklncgmfbflooaaDoorOldQ
import Derived.Test.YtklncgmfbflooaaDoorOldSafe
import Derived.Test.YtklncgmfbflooaaDoorSafeP
namespace Go.Proofs.YtklncgmfbflooaaDoor
open Go.RowKit
theorem zzQuote (base : Nat) (G : Option (Nat × Nat)) (v : Value) (l : List UInt8) (s : ByteArray) (w : World)
    (hB : Buf w base G v l) (hsz : l.length + 6 * s.size + 8 ≤ 140737488355328) (hbase : base ≤ w.heap.size) (hG : ∀ g o, G = some (g, o) → g < base) (hT : OTabs w) (hGB : 5 ≤ base) (hGG : ∀ g o, G = some (g, o) → 5 ≤ g) :
    Calls Tryd.prog 29 #[v, .string s, .bool true] w (HtmlPost base G (l ++ oquote s.data.toList) w) := by
  have hc := appendString base G v l s w hB hsz hbase hG hT hGB hGG
  have e : l ++ [34] ++ runF opiece 0 s.data.toList ++ [34] = l ++ oquote s.data.toList := by unfold oquote; simp only [List.append_assoc]
  rw [e] at hc
  generalize l ++ oquote s.data.toList = L at hc ⊢
  clear hB hsz hbase hG hT hGB hGG e
  go_enter Tryd.func29, Tryd.ntmps29
  go_wp2_with fail
  refine hc.mono ?_
  rintro e w' ⟨v', rfl, hb', hf'⟩
  clear hc
  go_wp2
  go_ret
  exact ⟨v', rfl, hb', hf'⟩
set_option maxHeartbeats 1000000 in
theorem oldQuote (s : ByteArray) (w : World) (hs : s.size ≤ 1000) (hT : OTabs w) :
    Calls Tryd.prog 13 #[.string ByteArray.empty, .string s, .bool true] w (SafePost (oquote s.data.toList) w) := by
  have hb := conv_buf ByteArray.empty w (by unfold maxLen; decide)
  have hlt := conv_lt ByteArray.empty w
  have hbel := conv_below ByteArray.empty w
  have h5 := hT.size
  have hc := zzQuote w.heap.size none _ _ s (convWorld w ByteArray.empty) hb (by have q : ByteArray.empty.data.toList.length = 0 := rfl; omega) (by omega) (by intro g o e; cases e) (hT.below hbel h5) h5 (by intro g o e; cases e)
  have hcv := run_conv ByteArray.empty w
  have eE : (ByteArray.empty.data.toList ++ oquote s.data.toList) = oquote s.data.toList := rfl
  rw [eE] at hc
  generalize oquote s.data.toList = L at hc ⊢
  generalize convWorld w ByteArray.empty = W1 at hc hcv hbel hlt
  generalize convCap w ByteArray.empty = c1 at hc hcv
  have HB := Lib.hid hbel
  have HS := Lib.hid hlt
  have he : (ByteArray.empty.size : Nat) = 0 := rfl
  rw [he] at hc hcv
  have ho : ByteArray.empty = ⟨#[]⟩ := rfl
  rw [ho] at hcv ⊢
  clear hb hs hT h5 eE he ho hbel hlt
  go_enter Tryd.func13, Tryd.ntmps13
  go_wp2_with fail
  refine hc.mono ?_
  rintro e w' ⟨v', rfl, hb', hf'⟩
  clear hc hcv
  have htx := hb'.text
  have hfin : Below w.heap.size w w' := by
    have h1 := HB.out
    have h2 := HS.out
    refine ⟨hf'.os.trans h1.os, hf'.tape.trans h1.tape, hf'.output.trans h1.output, by have := hf'.size; omega, fun k hk => (hf'.block k hk fun o e => by cases e).trans (h1.block k hk)⟩
  clear hb' hf'
  go_wp2
  go_ret
  exact ⟨rfl, hfin⟩
end Go.Proofs.YtklncgmfbflooaaDoor
