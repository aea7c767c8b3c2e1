/- impl.Unquote over the text of a string of which nothing is replaced, walked. -/
import Derived.Test.YtldcoaigecnpfaaDoorAppUnq
import Derived.Test.YtldcoaigecnpfaaDoorImplQuote
namespace Go.Proofs.YtldcoaigecnpfaaDoor
open Go.RowKit
def unqW (w : World) (dst t : ByteArray) : World := convWorld (convWorld w dst) t
theorem unqW_size (w : World) (dst t : ByteArray) : (unqW w dst t).heap.size = w.heap.size + 2 := by unfold unqW; rw [conv_size, conv_size]
theorem unqW_below (w : World) (dst t : ByteArray) : Below w.heap.size w (unqW w dst t) := by
  have h1 := conv_below dst w
  have h2 := conv_below t (convWorld w dst)
  exact h1.trans (h2.mono (by rw [conv_size]; omega))
def UnqOk (base : Nat) (G : Option (Nat × Nat)) (L : List UInt8) (w : World) (e : Ending) (w' : World) : Prop := ∃ v', e = .returned (.tuple #[v', .nilIface]) ∧ Buf w' base G v' L ∧ Fr base G w w'
theorem unq_ready (w : World) (dst t : ByteArray) (m : List UInt8) (E : Addr) (ht : t.data.toList = qT m) (h1 : dst.size ≤ 1000) (h2 : t.size ≤ 2000000) (hT : Tabs w E) (hok : okL m = true) (hne : neatL m = true) :
    Calls Tryd.prog 48 #[.slice (some ⟨w.heap.size, 0, none⟩) dst.size (convCap w dst), .slice (some ⟨(convWorld w dst).heap.size, 0, none⟩) t.size (convCap (convWorld w dst) t)] (unqW w dst t)
      (UnqOk (w.heap.size + 2) (some (w.heap.size, 0)) (dst.data.toList ++ dcL m) (unqW w dst t)) := by
  have hsz := hT.size
  have htz : t.size = m.length + 2 := by rw [← size_list, ht, qT_length]
  have hb := conv_buf dst w (by unfold maxLen; omega)
  have hb2 : Buf (unqW w dst t) w.heap.size none (.slice (some ⟨w.heap.size, 0, none⟩) dst.size (convCap w dst)) dst.data.toList := hb.below (conv_below t (convWorld w dst)) (fun g e => by simp [Value.ownBlock] at e; rw [conv_size]; omega)
  have hb4 := hb2.rebase
  rw [unqW_size] at hb4
  have hm : BytesAt (unqW w dst t) (convWorld w dst).heap.size 0 (qT m) := by rw [← ht]; exact conv_bytes t (convWorld w dst)
  have hx := appUnq (w.heap.size + 2) (some (w.heap.size, 0)) _ dst.data.toList (convWorld w dst).heap.size (convCap (convWorld w dst) t) m E (unqW w dst t) hb4 hm
    (by rw [← htz]; exact convCap_ge _ _) (convCap_le _ _ (by unfold maxLen; omega)) (by rw [size_list]; omega) (by rw [unqW_size]; omega) (by intro g o e; injection e with e; injection e with e1 e2; omega) (by rw [conv_size]; omega)
    (by intro o e; rw [conv_size] at e; injection e with e; injection e with e1 e2; omega) (hT.below (unqW_below w dst t) hsz) (by omega) (by intro g o e; injection e with e; injection e with e1 e2; omega) hok
  rw [← htz] at hx
  refine hx.mono ?_
  rintro e w' ⟨v', ev, rfl, hb', hf', hev⟩
  obtain rfl := hev.out hne
  exact ⟨v', rfl, hb', hf'⟩
set_option maxRecDepth 100000 in
set_option maxHeartbeats 2000000 in
theorem jtUnquote (dst t : ByteArray) (m : List UInt8) (E : Addr) (w : World) (ht : t.data.toList = qT m) (h1 : dst.size ≤ 1000) (h2 : t.size ≤ 2000000) (hT : Tabs w E) (hok : okL m = true) (hne : neatL m = true) :
    Calls Tryd.prog 30 #[.slice (some ⟨w.heap.size, 0, none⟩) dst.size (convCap w dst), .string t] (convWorld w dst) (UnqOk (w.heap.size + 2) (some (w.heap.size, 0)) (dst.data.toList ++ dcL m) (unqW w dst t)) := by
  have hq := unq_ready w dst t m E ht h1 h2 hT hok hne
  have hcv := run_conv t (convWorld w dst)
  have hqw : unqW w dst t = convWorld (convWorld w dst) t := rfl
  rw [hqw] at hq ⊢
  clear hqw hT ht hok hne
  generalize convWorld (convWorld w dst) t = W2 at hq hcv ⊢
  generalize convWorld w dst = W1 at hq hcv ⊢
  generalize convCap W1 t = c2 at hq hcv
  generalize convCap w dst = c1 at hq ⊢
  generalize dst.data.toList ++ dcL m = L at hq ⊢
  have HQ := Lib.hid hq
  clear hq
  go_enter Tryd.func30, Tryd.ntmps30
  go_wp2_with fail
  refine HQ.out.mono ?_
  rintro e w' ⟨v', rfl, hb', hf'⟩
  clear hcv HQ
  go_wp2
  go_ret2
  exact ⟨v', rfl, hb', hf'⟩
set_option maxRecDepth 100000 in
set_option maxHeartbeats 2000000 in
theorem implUnquote (dst t : ByteArray) (m : List UInt8) (E : Addr) (w : World) (ht : t.data.toList = qT m) (h1 : dst.size ≤ 1000) (h2 : t.size ≤ 2000000) (hT : Tabs w E) (hok : okL m = true) (hne : neatL m = true) :
    Calls Tryd.prog 18 #[.string dst, .string t] w (StrOk (dst.data.toList ++ dcL m) true w) := by
  have hj := jtUnquote dst t m E w ht h1 h2 hT hok hne
  have hcv := run_conv dst w
  have hbel := unqW_below w dst t
  have hts := unqW_size w dst t
  generalize unqW w dst t = W at hj hbel hts
  generalize convWorld w dst = W1 at hj hcv
  generalize convCap w dst = c1 at hj hcv
  generalize dst.data.toList ++ dcL m = L at hj ⊢
  have HB := Lib.hid hbel
  have HS := Lib.hid hts
  have HJ := Lib.hid hj
  clear hbel hts hj hT ht hok hne
  have hfin : ∀ w', Fr (w.heap.size + 2) (some (w.heap.size, 0)) W w' → Below w.heap.size w w' := fun w' hf' => by
    have h1 := HB.out
    have h2 := HS.out
    refine ⟨hf'.os.trans h1.os, hf'.tape.trans h1.tape, hf'.output.trans h1.output, by have := hf'.size; omega, fun k hk => (hf'.block k (by omega) fun o e => by injection e with e; injection e with e1 e2; omega).trans (h1.block k hk)⟩
  have HFIN := Lib.hid hfin
  clear hfin
  go_enter Tryd.func18, Tryd.ntmps18
  go_wp2_with fail
  refine HJ.out.mono ?_
  rintro e w' ⟨v', rfl, hb', hf'⟩
  have htx := fun n => (hb'.drewN n).text
  have HF := Lib.hid hf'
  clear hcv hf' hb' HJ
  go_wp2
  go_quiet (fail)
  go_wp2
  go_ret2
  exact ⟨rfl, below_drewN (HFIN.out _ HF.out) _⟩
end Go.Proofs.YtldcoaigecnpfaaDoor
