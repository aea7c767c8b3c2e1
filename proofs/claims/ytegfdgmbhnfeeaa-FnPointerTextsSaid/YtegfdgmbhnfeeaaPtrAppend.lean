/- jsontext's Pointer.AppendToken, impl.PointerAppend: walked. -/
import Derived.Test.YtegfdgmbhnfeeaaEscTok
namespace Go.Proofs.Ytegfdgmbhnfeeaa
open Go.RowKit
theorem run_convP (s : ByteArray) (w : World) : (convert 40 22 (.string s)).run Try.prog w = .ok (.slice (some ⟨w.heap.size, 0, none⟩) s.size (convCap w s)) (convWorld w s) :=
  Lib.run_convert_string_bytes w 40 22 5 s Try.underlying40 Try.underlying22 Try.underlying5
theorem Buf.textP {w : World} {base : Nat} {G : Option (Nat × Nat)} {v : Value} {l : List UInt8} (h : Buf w base G v l) : (convert 22 40 v).run Try.prog w = .ok (.string ⟨l.toArray⟩) w := by
  rcases h with ⟨rfl, rfl⟩ | ⟨g, o, cap, cur, fz, rfl, _, hh, _, _, _, _, hc⟩
  · exact run_convert_bytes_nil _ _ 5 Try.underlying22 Try.underlying5 0 0 40 Try.underlying40
  · rw [← strOfNums_list l]
    refine run_convert_bytes_arg _ _ 5 Try.underlying22 Try.underlying5 g o l.length cap _ (by simp) (fun i hi => ?_) 40 Try.underlying40
    rw [cell_of_row w g (o + i) cur _ fz hh, hc i hi]
    simp [List.getD_eq_getElem?_getD, hi]
def TextPost (L : List UInt8) (w : World) (e : Ending) (w' : World) : Prop := e = .returned (.string ⟨L.toArray⟩) ∧ Below w.heap.size w w'
set_option maxRecDepth 100000 in
set_option maxHeartbeats 1000000 in
theorem appendToken (p tok : ByteArray) (w : World) (h1 : p.size ≤ 100000) (h2 : tok.size ≤ 1000) (ht : isTxt tok.data.toList = true) :
    Calls Try.prog 35 #[.string p, .string tok] w (TextPost (p.data.toList ++ 47 :: esc tok.data.toList) w) := by
  obtain ⟨P, hP⟩ : ∃ P : ByteArray, P = p ++ ⟨#[47]⟩ := ⟨_, rfl⟩
  have hPs : P.size = p.size + 1 := by rw [hP, ByteArray.size_append]; rfl
  have hPl : P.data.toList = p.data.toList ++ [47] := by rw [hP]; simp
  have hadd : ∀ W, (Op.stringOp .add p ⟨#[47]⟩).run Try.prog W = .ok (.string P) W := fun W => by rw [hP]; exact run_string_add_sum W _ _ (by show p.size + 1 ≤ _; omega)
  have hcv := run_convP P w
  have hcv2 := run_conv tok (convWorld w P)
  have hc1 : (convWorld w P).heap.size = w.heap.size + 1 := conv_size P w
  have hc2 : (convWorld (convWorld w P) tok).heap.size = w.heap.size + 2 := by rw [conv_size, hc1]
  have b1 := conv_buf P w (by unfold maxLen; omega)
  have b2 : Buf (convWorld (convWorld w P) tok) w.heap.size none _ _ := b1.below (conv_below tok (convWorld w P)) (fun g e => by simp [Value.ownBlock] at e; omega)
  have hA := appendEsc (w.heap.size + 2) (some (w.heap.size, 0)) _ P.data.toList (w.heap.size + 1) (convCap (convWorld w P) tok) tok (convWorld (convWorld w P) tok) (by have := b2.rebase; rw [hc2] at this; exact this) (by have := conv_bytes tok (convWorld w P); rw [hc1] at this; exact this) (by rw [size_list, hPs]; omega) (by omega)
    (by intro g o q; injection q with q; injection q with q1 q2; omega) ht
  have hbel : Below w.heap.size w (convWorld (convWorld w P) tok) := (conv_below P w).trans ((conv_below tok (convWorld w P)).mono (by omega))
  have HFIN : Hid (∀ w', Fr (w.heap.size + 2) (some (w.heap.size, 0)) (convWorld (convWorld w P) tok) w' → Below w.heap.size w w') := Lib.hid fun w' f =>
    ⟨f.os.trans hbel.os, f.tape.trans hbel.tape, f.output.trans hbel.output, Nat.le_trans hbel.size f.size, fun k hk => (f.block k (by omega) (fun o e => by injection e with e; injection e with e1 e2; omega)).trans (hbel.block k hk)⟩
  rw [hPl, List.append_assoc] at hA
  have HA := Lib.hid hA
  rw [hc1] at hcv2
  clear hA hbel b1 b2 hPl hPs hP hc2 h1 h2 ht hc1
  show Calls _ _ _ _ (TextPost (p.data.toList ++ ([47] ++ esc tok.data.toList)) w)
  generalize p.data.toList ++ ([47] ++ esc tok.data.toList) = L at HA ⊢
  generalize convWorld (convWorld w P) tok = W2 at HA HFIN hcv2
  generalize convCap (convWorld w P) tok = cB at HA hcv2
  generalize convWorld w P = W1 at hcv hcv2
  generalize convCap w P = cA at HA hcv
  go_enter Try.func35, Try.ntmps35
  go_wp2_with fail
  refine HA.out.mono ?_
  rintro e w3 ⟨v', rfl, hb, hf⟩
  have htx := hb.textP
  have HB := Lib.hid (HFIN.out w3 hf)
  clear hb hf HA HFIN hcv hcv2 hadd
  go_wp2
  go_ret
  exact ⟨rfl, HB.out⟩
theorem ptrAppend (p tok : ByteArray) (w : World) (h1 : p.size ≤ 100000) (h2 : tok.size ≤ 1000) (ht : isTxt tok.data.toList = true) :
    Calls Try.prog 22 #[.string p, .string tok] w (TextPost (p.data.toList ++ 47 :: esc tok.data.toList) w) := by
  have HA := Lib.hid (appendToken p tok w h1 h2 ht)
  generalize p.data.toList ++ 47 :: esc tok.data.toList = L at HA ⊢
  clear h1 h2 ht
  go_enter Try.func22, Try.ntmps22
  go_wp2_with fail
  refine HA.out.mono ?_
  rintro e w' ⟨rfl, hb⟩
  have HB := Lib.hid hb
  clear hb HA
  go_wp2
  go_ret
  exact ⟨rfl, HB.out⟩
end Go.Proofs.Ytegfdgmbhnfeeaa
