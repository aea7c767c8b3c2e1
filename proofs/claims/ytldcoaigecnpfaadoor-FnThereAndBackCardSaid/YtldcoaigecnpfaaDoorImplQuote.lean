/- impl.Quote (a string's text behind another text), walked. -/
import Derived.Test.YtldcoaigecnpfaaDoorAppendQuote
namespace Go.Proofs.YtldcoaigecnpfaaDoor
open Go.RowKit
theorem conv_lt (s : ByteArray) (w : World) : w.heap.size < (convWorld w s).heap.size := by rw [conv_size]; omega
theorem convCap_le (w : World) (s : ByteArray) (h : s.size ≤ maxLen) : convCap w s ≤ maxLen := grownCap_le_maxLen _ _ _ _ h
theorem convCap_ge (w : World) (s : ByteArray) : s.size ≤ convCap w s := grownCap_ge _ _ _ _
/-- The text of a string. -/
def quoteL (l : List UInt8) : List UInt8 := [34] ++ runF (qpiece false false) 0 l ++ [34]
/-- The world ahead of AppendQuote: both texts' bytes, and no flags. -/
def quoteW (w : World) (to s : ByteArray) : World := (convWorld (convWorld w to) s).alloc (Obj.cells #[.int .u64 0, .int .u64 0] 84)
theorem quoteW_size (w : World) (to s : ByteArray) : (quoteW w to s).heap.size = w.heap.size + 3 := by unfold quoteW; simp; rw [conv_size, conv_size]
theorem quoteW_below (w : World) (to s : ByteArray) : Below w.heap.size w (quoteW w to s) := by
  have h1 := conv_below to w
  have h2 := conv_below s (convWorld w to)
  exact (h1.trans (h2.mono (by rw [conv_size]; omega))).alloc (by rw [conv_size, conv_size]; omega) _
theorem flag0_html : flagB 0 512 = false := by decide
theorem flag0_js : flagB 0 1024 = false := by decide
theorem flag0_allow : flagB 0 4 = false := by decide
theorem quote_ready (w : World) (to s : ByteArray) (E : Addr) (h1 : to.size ≤ 2147483647) (h2 : s.size ≤ 2147483647) (hT : Tabs w E) :
    Calls Tryd.prog 47 #[.slice (some ⟨w.heap.size, 0, none⟩) to.size (convCap w to), .slice (some ⟨(convWorld w to).heap.size, 0, none⟩) s.size (convCap (convWorld w to) s), .pointer (some ⟨(convWorld (convWorld w to) s).heap.size, 0, none⟩)] (quoteW w to s)
      (QuotePost (w.heap.size + 3) (some (w.heap.size, 0)) (to.data.toList ++ quoteL s.data.toList) (errOf (!cleanL s.data.toList) E) (quoteW w to s)) := by
  have hsz := hT.size
  have hb := conv_buf to w (by unfold maxLen; omega)
  have hb2 : Buf (convWorld (convWorld w to) s) w.heap.size none (.slice (some ⟨w.heap.size, 0, none⟩) to.size (convCap w to)) to.data.toList := hb.below (conv_below s (convWorld w to)) (fun g e => by simp [Value.ownBlock] at e; rw [conv_size]; omega)
  have hb3 : Buf (quoteW w to s) w.heap.size none (.slice (some ⟨w.heap.size, 0, none⟩) to.size (convCap w to)) to.data.toList := hb2.alloc _
  have hb4 := hb3.rebase
  rw [quoteW_size] at hb4
  have hm : BytesAt (quoteW w to s) (convWorld w to).heap.size 0 s.data.toList :=
    (conv_bytes s (convWorld w to)).below ((Below.refl _ _).alloc (Nat.le_refl _) _) (conv_lt s (convWorld w to))
  have hnew : (quoteW w to s).heap[(convWorld (convWorld w to) s).heap.size]? = some (Obj.cells #[.int .u64 0, .int .u64 0] 84) := alloc_new _ _
  have hx := appendQuote (w.heap.size + 3) (some (w.heap.size, 0)) _ to.data.toList (convWorld w to).heap.size (convCap (convWorld w to) s) s.data.toList (convWorld (convWorld w to) s).heap.size 0 0 E (quoteW w to s) hb4 hm
    (by rw [size_list]; exact convCap_ge _ _) (convCap_le _ _ (by unfold maxLen; omega)) (by rw [size_list, size_list]; omega) (by rw [quoteW_size]; omega) (by intro g o e; injection e with e; injection e with e1 e2; omega) (by rw [conv_size]; omega)
    (by intro o e; rw [conv_size] at e; injection e with e; injection e with e1 e2; omega) (hT.below (quoteW_below w to s) hsz) (by omega) (by intro g o e; injection e with e; injection e with e1 e2; omega) (by rw [conv_size, conv_size]; omega)
    (by intro o e; rw [conv_size, conv_size] at e; injection e with e; injection e with e1 e2; omega) (cell_of_row _ _ 0 _ _ _ hnew) (cell_of_row _ _ 1 _ _ _ hnew)
  rw [size_list, flag0_html, flag0_js, flag0_allow] at hx
  have e : to.data.toList ++ quoteL s.data.toList = to.data.toList ++ [34] ++ runF (qpiece false false) 0 s.data.toList ++ [34] := by unfold quoteL; simp only [List.append_assoc]
  rw [e]
  have e2 : (!cleanL s.data.toList && !false) = !cleanL s.data.toList := by simp
  rw [e2] at hx
  exact hx
theorem below_drewN {B : Nat} {a w : World} (h : Below B a w) (n : Nat) : Below B a (w.drewN n) := ⟨h.os, h.tape, h.output, h.size, h.block⟩
def JtPost (base : Nat) (G : Option (Nat × Nat)) (L : List UInt8) (ok : Bool) (w : World) (e : Ending) (w' : World) : Prop := ∃ v' err, e = .returned (.tuple #[v', err]) ∧ (if ok then err = .nilIface else ∃ a, err = .iface 85 (.pointer (some a))) ∧ Buf w' base G v' L ∧ Fr base G w w'
set_option maxRecDepth 100000 in
set_option maxHeartbeats 2000000 in
theorem jtQuote (to s : ByteArray) (E : Addr) (w : World) (h1 : to.size ≤ 2147483647) (h2 : s.size ≤ 2147483647) (hT : Tabs w E) :
    Calls Tryd.prog 28 #[.slice (some ⟨w.heap.size, 0, none⟩) to.size (convCap w to), .string s] (convWorld w to) (JtPost (w.heap.size + 3) (some (w.heap.size, 0)) (to.data.toList ++ quoteL s.data.toList) (cleanL s.data.toList) (quoteW w to s)) := by
  have hq := quote_ready w to s E h1 h2 hT
  have hcv := run_conv s (convWorld w to)
  have hqw : quoteW w to s = (convWorld (convWorld w to) s).alloc (Obj.cells #[.int .u64 0, .int .u64 0] 84) := rfl
  have hqs : w.heap.size + 3 ≤ (quoteW w to s).heap.size := by rw [quoteW_size]; omega
  rw [hqw] at hq hqs ⊢
  clear hqw hT
  generalize convWorld (convWorld w to) s = W2 at hq hcv hqs ⊢
  generalize convWorld w to = W1 at hq hcv ⊢
  generalize convCap W1 s = c2 at hq hcv
  generalize convCap w to = c1 at hq ⊢
  generalize to.data.toList ++ quoteL s.data.toList = L at hq ⊢
  generalize cleanL s.data.toList = clean at hq ⊢
  have HQ := Lib.hid hq
  have HQS := Lib.hid hqs
  clear hq hqs
  cases clean
  · go_enter Tryd.func28, Tryd.ntmps28
    go_wp2_with fail
    refine HQ.out.mono ?_
    rintro e w' ⟨v', rfl, hb', hf'⟩
    have he : errOf (!false) E = .iface 137 (.pointer (some E)) := rfl
    rw [he]
    clear hcv he HQ
    go_wp2
    go_ret2
    refine ⟨v', _, rfl, ⟨_, rfl⟩, hb'.alloc _, hf'.alloc _ HQS.out (by intro g o e; injection e with e; injection e with e1 e2; omega)⟩
  · go_enter Tryd.func28, Tryd.ntmps28
    go_wp2_with fail
    refine HQ.out.mono ?_
    rintro e w' ⟨v', rfl, hb', hf'⟩
    have he : errOf (!true) E = .nilIface := rfl
    rw [he]
    clear hcv he HQ
    go_wp2
    go_ret2
    exact ⟨v', _, rfl, rfl, hb', hf'⟩
def StrOk (L : List UInt8) (ok : Bool) (w : World) (e : Ending) (w' : World) : Prop := e = .returned (.tuple #[.string ⟨L.toArray⟩, .bool ok]) ∧ Below w.heap.size w w'
set_option maxRecDepth 100000 in
set_option maxHeartbeats 2000000 in
theorem implQuote (to s : ByteArray) (E : Addr) (w : World) (h1 : to.size ≤ 2147483647) (h2 : s.size ≤ 2147483647) (hT : Tabs w E) :
    Calls Tryd.prog 15 #[.string to, .string s] w (StrOk (to.data.toList ++ quoteL s.data.toList) (cleanL s.data.toList) w) := by
  have hj := jtQuote to s E w h1 h2 hT
  have hcv := run_conv to w
  have hbel := quoteW_below w to s
  have hts := quoteW_size w to s
  generalize quoteW w to s = W at hj hbel hts
  generalize convWorld w to = W1 at hj hcv
  generalize convCap w to = c1 at hj hcv
  generalize to.data.toList ++ quoteL s.data.toList = L at hj ⊢
  generalize cleanL s.data.toList = clean at hj ⊢
  have HB := Lib.hid hbel
  have HS := Lib.hid hts
  have HJ := Lib.hid hj
  clear hbel hts hj hT
  have hfin : ∀ w', Fr (w.heap.size + 3) (some (w.heap.size, 0)) W w' → Below w.heap.size w w' := fun w' hf' => by
    have h1 := HB.out
    have h2 := HS.out
    refine ⟨hf'.os.trans h1.os, hf'.tape.trans h1.tape, hf'.output.trans h1.output, by have := hf'.size; omega, fun k hk => (hf'.block k (by omega) fun o e => by injection e with e; injection e with e1 e2; omega).trans (h1.block k hk)⟩
  have HFIN := Lib.hid hfin
  clear hfin
  cases clean
  · go_enter Tryd.func15, Tryd.ntmps15
    go_wp2_with fail
    refine HJ.out.mono ?_
    rintro e w' ⟨v', err, rfl, he, hb', hf'⟩
    obtain ⟨a, rfl⟩ : ∃ a, err = .iface 85 (.pointer (some a)) := he
    have htx := fun n => (hb'.drewN n).text
    have HF := Lib.hid hf'
    clear hcv hf' hb' HJ
    go_wp2
    go_quiet (fail)
    go_wp2
    go_ret2
    exact ⟨rfl, below_drewN (HFIN.out _ HF.out) _⟩
  · go_enter Tryd.func15, Tryd.ntmps15
    go_wp2_with fail
    refine HJ.out.mono ?_
    rintro e w' ⟨v', err, rfl, he, hb', hf'⟩
    obtain rfl : err = .nilIface := he
    have htx := fun n => (hb'.drewN n).text
    have HF := Lib.hid hf'
    clear hcv hf' hb' HJ
    go_wp2
    go_quiet (fail)
    go_wp2
    go_ret2
    exact ⟨rfl, below_drewN (HFIN.out _ HF.out) _⟩
end Go.Proofs.YtldcoaigecnpfaaDoor
