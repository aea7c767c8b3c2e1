/- jsonscan.appendNewline, walked. -/
import Derived.Test.YtklncgmfbflooaaDoorCmpP
import Derived.Test.YtklncgmfbflooaaDoorHtml
import Derived.Deep.LoopGhost
namespace Go.Proofs.YtklncgmfbflooaaDoor
open Go.RowKit
theorem place_ownN {v : Value} {g o : Nat} (h : place v = some (g, o)) : v.ownBlock = some g := by
  unfold place at h
  split at h
  · injection h with h
    injection h with h _
    subst h
    rfl
  · cases h
theorem Fr.grown {w w' : World} {v : Value} (f : Fr w.heap.size (place v) w w') : w.grownBy w' v.ownBlock :=
  ⟨f.os, f.tape, f.output, f.size, fun k hk hn => f.block k hk (fun o e => hn (place_ownN e).symm)⟩
set_option maxRecDepth 100000 in
set_option maxHeartbeats 2000000 in
theorem appendNL (base : Nat) (G : Option (Nat × Nat)) (v : Value) (l : List UInt8) (pre ind : ByteArray) (d : Int) (w : World) (hB : Buf w base G v l) (hd : d ≤ 100000) (hd' : -100000 ≤ d) (hp : pre.size ≤ 16) (hi : ind.size ≤ 16) (hsz : l.length ≤ 100000000000)
    (hbase : base ≤ w.heap.size) (hG : ∀ g o, G = some (g, o) → g < base) :
    Calls Tryd.prog 74 #[v, .string pre, .string ind, .int .i64 d] w (HtmlPost base G (l ++ nlL pre.data.toList ind.data.toList d) w) := by
  obtain ⟨P, hP⟩ : ∃ P, P = pre.data.toList := ⟨_, rfl⟩
  obtain ⟨I, hI⟩ : ∃ I, I = ind.data.toList := ⟨_, rfl⟩
  have hpl : P.length ≤ 16 := by rw [hP, size_list]; exact hp
  have hil : I.length ≤ 16 := by rw [hI, size_list]; exact hi
  have HSP : Hid (∀ W, Src W 9 (.string pre) P) := Lib.hid fun W => by rw [hP]; exact Src.text pre
  have HSI : Hid (∀ W, Src W 9 (.string ind) I) := Lib.hid fun W => by rw [hI]; exact Src.text ind
  have HGH := Lib.hid hG
  have HBM := Lib.hid hbase
  rw [← hP, ← hI]
  obtain ⟨X, hX⟩ : ∃ X, X = l ++ nlL P I d := ⟨_, rfl⟩
  rw [← hX]
  have HX := Lib.hid hX
  have hB1 : Buf (w.alloc (Obj.cells (nums [10]).toArray 5)) base G v l := hB.alloc _
  have HB := Lib.hid hB
  clear hP hI hX hB hG hbase hB1
  go_enter Tryd.func74, Tryd.ntmps74
  go_wp2_with (at_builtin; refine wpList_append_buf rfl (.tmp 10) (.tmp 11) 56 rfl base G v l rfl (HB.out.alloc _) _ [10] rfl (Src.slice _ 0 1 [10] (bytes_new w _ _)) ?c1 ?c2 HGH.out ?_)
  case c1 => simp; omega
  case c2 => have := HBM.out; simp; omega
  intro v1 w1 hb1 hg1 hf1 _
  have HB1 := Lib.hid hb1
  have HF1 := Lib.hid (Fr.trans ((Fr.refl base G w).alloc _ HBM.out HGH.out) hf1)
  clear hb1 hg1 hf1 HB
  go_wp2_with (at_builtin; refine wpList_append_buf rfl (.tmp 13) (.tmp 14) 9 rfl base G v1 _ rfl HB1.out _ P rfl (HSP.out w1) ?c1 ?c2 HGH.out ?_)
  case c1 => simp; omega
  case c2 => have := HF1.out.size; have := HBM.out; omega
  intro v2 w2 hb2 hg2 hf2 _
  have HB2 : Hid (Buf w2 base G v2 (l ++ (10 :: (P ++ (List.replicate 0 I).flatten)))) := Lib.hid (by simpa only [List.append_assoc, List.replicate_zero, List.flatten_nil, List.append_nil, List.singleton_append, List.cons_append, List.nil_append] using hb2)
  have HF2 := Lib.hid (HF1.out.trans hf2)
  clear hb2 hg2 hf2 HB1 HF1
  go_wp2
  go_loopg [0, 9] d.toNat (fun q b i wx => ∃ j : Nat, j ≤ d.toNat ∧ q = d.toNat - j ∧ i = .int .i64 j ∧ Hid (Buf wx base G b (l ++ (10 :: (P ++ (List.replicate j I).flatten)))) ∧ Hid (Fr base G w wx))
  case atStart => exact ⟨0, Nat.zero_le _, rfl, rfl, HB2, HF2⟩
  case round =>
    clear HB2 HF2
    obtain ⟨j, hj, rfl, rfl, hb, hf⟩ := hrel
    by_cases hjd : j < d.toNat
    · have hlt : decide ((j : Int) < d) = true := by simp; omega
      have hjl : (List.replicate j I).flatten.length ≤ 16 * 100000 := by
        rw [List.length_flatten]
        simp only [List.map_replicate, List.sum_replicate_nat]
        have : j * I.length ≤ 100000 * 16 := Nat.mul_le_mul (by omega) hil
        omega
      go_wp2_with (at_builtin; refine wpList_append_buf rfl (.tmp 21) (.tmp 22) 9 rfl base G u0 _ rfl hb.out _ I rfl (HSI.out wr) ?c1 ?c2 HGH.out ?_)
      case c1 => simp only [List.length_append, List.length_cons]; omega
      case c2 => have := hf.out.size; have := HBM.out; omega
      intro v3 w3 hb3 hg3 hf3 _
      have HB3 : Hid (Buf w3 base G v3 (l ++ (10 :: (P ++ (List.replicate (j + 1) I).flatten)))) := Lib.hid (by
        have e : (List.replicate (j + 1) I).flatten = (List.replicate j I).flatten ++ I := by rw [List.replicate_succ', List.flatten_append]; simp
        rw [e]
        simpa only [List.append_assoc, List.cons_append] using hb3)
      have HF3 := Lib.hid (hf.out.trans hf3)
      clear hb3 hg3 hf3 hb hf
      go_wp2
      go_roundg (d.toNat - (j + 1))
      case measure => omega
      case rel => exact ⟨j + 1, by omega, rfl, by go_num, HB3, HF3⟩
    · have hlt : decide ((j : Int) < d) = false := by simp; omega
      have hjd' : j = d.toNat := by omega
      have HB3 : Hid (Buf wr base G u0 X) := Lib.hid (by rw [HX.out]; unfold nlL; rw [← hjd']; exact hb.out)
      clear hb
      go_wp2
      go_ret
      exact ⟨u0, rfl, HB3.out, hf.out⟩
end Go.Proofs.YtklncgmfbflooaaDoor
