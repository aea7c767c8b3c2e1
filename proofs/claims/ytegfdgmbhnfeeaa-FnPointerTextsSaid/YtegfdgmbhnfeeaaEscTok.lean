/- jsontext's appendEscapePointerName, Pointer.AppendToken, impl.PointerAppend: walked. -/
import Derived.Test.YtegfdgmbhnfeeaaAppRune
import Derived.Test.YtegfdgmbhnfeeaaUnescape
import Derived.Test.YtegfdgmbhnfeeaaDcd
import Derived.Lib.OthersKept
import Derived.Lib.TrimUEq
import Derived.Lib.QuoteLoop
import Derived.Deep.LoopGhost
import Derived.Lib.Strings
namespace Go.Proofs.Ytegfdgmbhnfeeaa
open Go.RowKit
theorem decode_drop (s : ByteArray) (k : Nat) : Utf8.decode s k = decN (s.data.toList.drop k) := by
  rw [Lib.decode_N]
  unfold decN natL
  simp only [List.length_drop, List.getD_eq_getElem?_getD, List.getElem?_drop, Nat.add_zero]
theorem rl_contE (l : List UInt8) (h : 0 < l.length) (j : Nat) (h1 : 1 ≤ j) (h2 : j < decW l) : 128 ≤ atL l j := by
  have hd : decW l = if rlL l = 0 then 1 else (rlL l).toNat := rfl
  have hr : rlL l = rl l.length (atL l 0) (atL l 1) (atL l 2) (atL l 3) := rfl
  have hw := decW_range l h
  have c : j = 1 ∨ j = 2 ∨ j = 3 := by omega
  have hlt : (j : Int) < rlL l := by
    rw [hd] at h2
    split at h2
    · omega
    · omega
  rw [hr] at hlt
  clear hd hr
  generalize atL l 0 = x0 at *
  rcases c with rfl | rfl | rfl
  · generalize atL l 1 = x1 at *
    generalize atL l 2 = x2 at *
    generalize atL l 3 = x3 at *
    unfold rl at hlt; (repeat' split at hlt) <;> omega
  · generalize atL l 1 = x1 at *
    generalize atL l 2 = x2 at *
    generalize atL l 3 = x3 at *
    unfold rl at hlt; (repeat' split at hlt) <;> omega
  · generalize atL l 1 = x1 at *
    generalize atL l 2 = x2 at *
    generalize atL l 3 = x3 at *
    unfold rl at hlt; (repeat' split at hlt) <;> omega
theorem esc_high : ∀ t : List UInt8, (∀ x, x ∈ t → 128 ≤ x.toNat) → esc t = t
  | [], _ => rfl
  | c :: r, h => by
    have hc := h c (List.mem_cons_self ..)
    have e1 : ¬ c = 126 := fun q => by rw [q] at hc; exact absurd hc (by decide)
    have e2 : ¬ c = 47 := fun q => by rw [q] at hc; exact absurd hc (by decide)
    have ih := esc_high r (fun x hx => h x (List.mem_cons_of_mem _ hx))
    unfold esc at ih ⊢
    rw [List.flatMap_cons, ih, if_neg e1, if_neg e2]; rfl
/-- What stands for the character at the head. -/
def escH (l : List UInt8) : List UInt8 := if natL l 0 = 126 then [126, 48] else if natL l 0 = 47 then [126, 49] else l.take (decW l)
theorem escH_length (l : List UInt8) (h : 0 < l.length) : (escH l).length ≤ 4 := by
  have := decW_range l h
  unfold escH
  (repeat' split) <;> simp <;> omega
theorem esc_char (l : List UInt8) (h : 0 < l.length) : esc l = escH l ++ esc (l.drop (decW l)) := by
  by_cases ha : natL l 0 < 128
  · have hw := (decW_ascii l ha).2
    have hcr : ∃ c r, l = c :: r := by
      cases l with
      | nil => exact absurd h (by decide)
      | cons c r => exact ⟨c, r, rfl⟩
    obtain ⟨c, r, hl⟩ := hcr
    have hn : natL l 0 = c.toNat := by rw [hl]; rfl
    have e126 : (c = 126) ↔ c.toNat = 126 := ⟨fun q => by rw [q]; rfl, fun q => UInt8.toNat_inj.1 q⟩
    have e47 : (c = 47) ↔ c.toNat = 47 := ⟨fun q => by rw [q]; rfl, fun q => UInt8.toNat_inj.1 q⟩
    have he : esc l = (if c = 126 then [126, 48] else if c = 47 then [126, 49] else [c]) ++ esc r := by rw [hl]; unfold esc; rw [List.flatMap_cons]
    have ht : l.take 1 = [c] := by rw [hl]; rfl
    have hd : l.drop 1 = r := by rw [hl]; rfl
    unfold escH
    rw [hw, hn, ht, hd, he]
    simp only [e126, e47]
  · have hh : escH l = l.take (decW l) := by unfold escH; rw [if_neg (by omega), if_neg (by omega)]
    rw [hh]
    have ht : esc (l.take (decW l)) = l.take (decW l) := esc_high _ fun x hx => by
      obtain ⟨j, hj, rfl⟩ := List.getElem_of_mem hx
      rw [List.length_take] at hj
      rw [List.getElem_take]
      have hj2 : j < l.length := by omega
      have e : natL l j = (l[j]'hj2).toNat := by unfold natL; rw [List.getD_eq_getElem?_getD, List.getElem?_eq_getElem hj2]; rfl
      rw [← e]
      by_cases j0 : j = 0
      · subst j0; omega
      · have := rl_contE l h j (by omega) (by omega)
        rw [natL_at] at this
        omega
    conv => lhs; rw [← List.take_append_drop (decW l) l]
    rw [esc_append, ht]
theorem Buf.iterAt {w : World} {base : Nat} {G : Option (Nat × Nat)} {v : Value} {l : List UInt8} {K : Nat} {s : ByteArray} {k : Nat} (h : Buf w base G v l) (hk : w.heap[K]? = some (.stringIter s k)) (p : Nat) : Buf (w.iterAt K s p) base G v l := by
  rcases h with h | ⟨g, o, cap, cur, fz, rfl, hgb, hh, rest⟩
  · exact .inl h
  · have hne : g ≠ K := fun e => by subst e; rw [hk] at hh; cases hh
    exact .inr ⟨g, o, cap, cur, fz, rfl, hgb, (Lib.iterAt_other w K g s p hne).trans hh, rest⟩
theorem Buf.notIter {w : World} {base : Nat} {G : Option (Nat × Nat)} {v : Value} {l : List UInt8} {K : Nat} {s : ByteArray} {k : Nat} (h : Buf w base G v l) (hk : w.heap[K]? = some (.stringIter s k)) : v.ownBlock ≠ some K := fun e => by
  rcases h with ⟨rfl, _⟩ | ⟨g, o, cap, cur, fz, rfl, hgb, hh, rest⟩
  · cases e
  · obtain rfl : g = K := Option.some.inj e
    rw [hk] at hh; cases hh
theorem place_ownE {v : Value} {g o : Nat} (h : place v = some (g, o)) : v.ownBlock = some g := by
  unfold place at h
  split at h
  · injection h with h
    injection h with h _
    subst h
    rfl
  · cases h
theorem validR (l : List UInt8) : (decN l).1 ≤ 1114111 ∧ ¬ (55296 ≤ ((decN l).1 : Int) ∧ ((decN l).1 : Int) ≤ 57343) := by
  have h := Lib.rune_valid ⟨l.toArray⟩
  rw [decode_drop] at h
  simp only [List.drop_zero] at h
  unfold Lib.validRune at h
  simp at h
  omega
theorem conv_bytesE (g cap : Nat) (l : List UInt8) (w : World) (hb : BytesAt w g 0 l) : (convert 22 9 (.slice (some ⟨g, 0, none⟩) l.length cap)).run Try.prog w = .ok (.string ⟨l.toArray⟩) w := by
  rw [← strOfNums_list l]
  refine run_convert_bytes_arg _ _ 5 Try.underlying22 Try.underlying5 g 0 l.length cap _ (by simp) (fun i hi => ?_) 9 Try.underlying9
  rw [hb i hi]
  simp [atL, List.getD_eq_getElem?_getD, hi]
theorem esc_le2 : ∀ t : List UInt8, (esc t).length ≤ 2 * t.length
  | [] => by simp [esc]
  | c :: r => by
    have he : esc (c :: r) = (if c = 126 then [126, 48] else if c = 47 then [126, 49] else [c]) ++ esc r := by unfold esc; rw [List.flatMap_cons]
    have ih := esc_le2 r
    rw [he, List.length_append, List.length_cons]
    have : (if c = 126 then [126, 48] else if c = 47 then [126, 49] else [c] : List UInt8).length ≤ 2 := by (repeat' split) <;> simp
    omega
def EscPost (base : Nat) (G : Option (Nat × Nat)) (L : List UInt8) (w : World) (e : Ending) (w' : World) : Prop := ∃ v', e = .returned v' ∧ Buf w' base G v' L ∧ Fr base G w w'
set_option maxRecDepth 100000 in
set_option maxHeartbeats 8000000 in
theorem appendEsc (base : Nat) (G : Option (Nat × Nat)) (v : Value) (l0 : List UInt8) (g cap : Nat) (s : ByteArray) (w : World) (hB : Buf w base G v l0) (hm : BytesAt w g 0 s.data.toList) (hsz : l0.length + 4 * s.size + 16 ≤ 140737488355328)
    (hbase : base ≤ w.heap.size) (hG : ∀ g o, G = some (g, o) → g < base) (ht : isTxt s.data.toList = true) :
    Calls Try.prog 43 #[v, .slice (some ⟨g, 0, none⟩) s.size cap] w (EscPost base G (l0 ++ esc s.data.toList) w) := by
  have hcv : (convert 22 9 (.slice (some ⟨g, 0, none⟩) s.size cap)).run Try.prog w = .ok (.string s) w := by
    have := conv_bytesE g cap s.data.toList w hm
    rw [size_list s] at this
    exact this
  obtain ⟨n, hn⟩ : ∃ n, n = s.size := ⟨_, rfl⟩
  have HN : Hid (n = s.data.toList.length) := Lib.hid (by rw [hn, size_list])
  obtain ⟨Q, hQ⟩ : ∃ Q, Q = esc s.data.toList := ⟨_, rfl⟩
  obtain ⟨K, hK⟩ : ∃ K, K = w.heap.size := ⟨_, rfl⟩
  have HIT : Hid ((w.iter s 0).heap[K]? = some (.stringIter s 0)) := Lib.hid (by rw [hK]; exact World.iter_heap w s 0)
  have HB0 : Hid (Buf (w.iter s 0) base G v (l0 ++ [])) := Lib.hid (by rw [List.append_nil]; exact hB.alloc _)
  have HF0 : Hid (Fr base G w (w.iter s 0)) := Lib.hid (Fr.of_below ((Below.refl _ w).alloc hbase _) hG)
  have HE0 : Hid (Q = [] ++ esc (s.data.toList.drop 0)) := Lib.hid (by rw [hQ]; rfl)
  have HT0 : Hid (isTxt (s.data.toList.drop 0) = true) := Lib.hid ht
  have HG := Lib.hid hG
  have HQ4 : Hid (Q.length ≤ 4 * n) := Lib.hid (by
    rw [hQ, HN.out]
    have := esc_le2 s.data.toList
    omega)
  have hKb : base ≤ K := by rw [hK]; exact hbase
  rw [← hn] at hsz hcv ⊢
  rw [← hQ]
  have HNS := Lib.hid hn
  clear hB hm ht hQ hG hn
  have HKS := Lib.hid hK
  clear hK
  go_enter Try.func43, Try.ntmps43
  go_wp2
  rw [← HKS.out]
  generalize w.iter s 0 = w1 at HIT HB0 HF0 ⊢
  go_loopg [0] n (fun q b wx => ∃ (k : Nat) (out : List UInt8), k ≤ n ∧ q = n - k ∧ Hid (wx.heap[K]? = some (.stringIter s k)) ∧ Hid (Buf wx base G b (l0 ++ out)) ∧ Hid (Fr base G w wx) ∧ Hid (Q = out ++ esc (s.data.toList.drop k)) ∧ Hid (isTxt (s.data.toList.drop k) = true))
  case atStart => exact ⟨0, [], Nat.zero_le _, rfl, HIT, HB0, HF0, HE0, HT0⟩
  case round =>
    clear HIT HB0 HF0 HE0 HT0 hcv
    obtain ⟨k, out, hk, rfl, hI, hB, hF, hE, hT⟩ := hrel
    by_cases hkn : k < n
    · have hks : k < s.size := by rw [← HNS.out]; exact hkn
      have hpos : 0 < (s.data.toList.drop k).length := by rw [List.length_drop, ← HN.out]; omega
      have h0 : ¬ rlL (s.data.toList.drop k) = 0 := fun q => by have := isTxt_no _ hpos q; rw [hT.out] at this; cases this
      have hnx := fun ty => Lib.run_next_any_at (P := Try.prog) wr K s k ty hI.out hks
      rw [decode_drop] at hnx
      have hd2 := decN_two (s.data.toList.drop k) hpos
      have hwr := decW_range (s.data.toList.drop k) hpos
      rw [List.length_drop, ← HN.out] at hwr
      have hst := esc_char (s.data.toList.drop k) hpos
      have hts := isTxt_step _ hpos h0
      have hdw : (rlL (s.data.toList.drop k)).toNat = decW (s.data.toList.drop k) := by unfold decW; rw [if_neg h0]
      rw [hdw, List.drop_drop, hT.out] at hts
      rw [List.drop_drop] at hst
      have hol : out.length + 4 ≤ 4 * n + 4 := by
        have := congrArg List.length hE.out
        rw [List.length_append] at this
        have := HQ4.out
        omega
      rw [hd2] at hnx
      obtain ⟨wd, hwd⟩ : ∃ x, x = decW (s.data.toList.drop k) := ⟨_, rfl⟩
      rw [← hwd] at hnx hwr hst hts
      have HI1 : Hid ((wr.iterAt K s (k + wd)).heap[K]? = some (.stringIter s (k + wd))) := Lib.hid (Lib.iterAt_heap wr K s k (k + wd) hI.out)
      have HB1 := Lib.hid (hB.out.iterAt hI.out (k + wd))
      have HF1 : Hid (Fr base G w (wr.iterAt K s (k + wd))) := Lib.hid (hF.out.trans (Fr.of_below (Lib.below_iterAt (Below.refl base wr) hKb s (k + wd)) HG.out))
      have HT1 : Hid (isTxt (s.data.toList.drop (k + wd)) = true) := Lib.hid hts.symm
      have HSZ : Hid (base ≤ (wr.iterAt K s (k + wd)).heap.size) := Lib.hid (by rw [Lib.iterAt_size]; exact Nat.le_trans hbase hF.out.size)
      have hE2 : Q = out ++ escH (s.data.toList.drop k) ++ esc (s.data.toList.drop (k + wd)) := by rw [hE.out, hst, List.append_assoc]
      have HWD := Lib.hid hwd
      obtain ⟨c, hc⟩ : ∃ c, c = natL (s.data.toList.drop k) 0 := ⟨_, rfl⟩
      clear hwd hst hts hd2 hdw hT hE hI
      generalize wr.iterAt K s (k + wd) = w2 at *
      have hld : k + wd ≤ n := by omega
      by_cases h126 : c = 126
      · have hdn : (decN (s.data.toList.drop k)).1 = 126 := by
          unfold decN Go.Lib.decodeN; rw [if_pos (by omega)]; omega
        have hh : escH (s.data.toList.drop k) = [126, 48] := by unfold escH; rw [if_pos (by omega)]
        rw [hdn] at hnx
        rw [hh] at hE2
        have HE2 := Lib.hid hE2
        clear hE2 hdn hh hB hF h126 hc
        go_wp2_with (at_builtin; refine wpList_append_buf rfl (.tmp 19) (.const (.string ⟨#[126, 48]⟩)) 9 rfl base G u0 _ rfl HB1.out _ [126, 48] rfl (Src.text ⟨#[126, 48]⟩) ?c1 HSZ.out HG.out ?_)
        case c1 => rw [List.length_append]; show _ + 2 ≤ _; omega
        intro v5 w5 hb5 hg5 hf5 _
        have HI5 : Hid (w5.heap[K]? = some (.stringIter s (k + wd))) := Lib.hid ((hg5.block K (Array.getElem?_eq_some_iff.1 HI1.out).1 (fun q => HB1.out.notIter HI1.out q.symm)).trans HI1.out)
        have HB5 : Hid (Buf w5 base G v5 (l0 ++ (out ++ [126, 48]))) := Lib.hid (by simpa only [List.append_assoc] using hb5)
        have HF5 := Lib.hid (HF1.out.trans hf5)
        clear hb5 hg5 hf5 HI1 HB1 HF1
        go_wp2
        go_roundg (n - (k + wd))
        case measure => omega
        case rel => exact ⟨k + wd, out ++ [126, 48], hld, rfl, HI5, HB5, HF5, HE2, HT1⟩
      · by_cases h47 : c = 47
        · have hdn : (decN (s.data.toList.drop k)).1 = 47 := by
            unfold decN Go.Lib.decodeN; rw [if_pos (by omega)]; omega
          have hh : escH (s.data.toList.drop k) = [126, 49] := by unfold escH; rw [if_neg (by omega), if_pos (by omega)]
          rw [hdn] at hnx
          rw [hh] at hE2
          have HE2 := Lib.hid hE2
          clear hE2 hdn hh hB hF h126 h47 hc
          go_wp2_with (at_builtin; refine wpList_append_buf rfl (.tmp 23) (.const (.string ⟨#[126, 49]⟩)) 9 rfl base G u0 _ rfl HB1.out _ [126, 49] rfl (Src.text ⟨#[126, 49]⟩) ?c1 HSZ.out HG.out ?_)
          case c1 => rw [List.length_append]; show _ + 2 ≤ _; omega
          intro v5 w5 hb5 hg5 hf5 _
          have HI5 : Hid (w5.heap[K]? = some (.stringIter s (k + wd))) := Lib.hid ((hg5.block K (Array.getElem?_eq_some_iff.1 HI1.out).1 (fun q => HB1.out.notIter HI1.out q.symm)).trans HI1.out)
          have HB5 : Hid (Buf w5 base G v5 (l0 ++ (out ++ [126, 49]))) := Lib.hid (by simpa only [List.append_assoc] using hb5)
          have HF5 := Lib.hid (HF1.out.trans hf5)
          clear hb5 hg5 hf5 HI1 HB1 HF1
          go_wp2
          go_roundg (n - (k + wd))
          case measure => omega
          case rel => exact ⟨k + wd, out ++ [126, 49], hld, rfl, HI5, HB5, HF5, HE2, HT1⟩
        · have hv := validR (s.data.toList.drop k)
          have hen := enc_dec (s.data.toList.drop k) hpos
          have hme : mendC (s.data.toList.drop k) = (s.data.toList.drop k).take wd := by unfold mendC; rw [if_neg h0, HWD.out]
          have hh : escH (s.data.toList.drop k) = (s.data.toList.drop k).take wd := by unfold escH; rw [if_neg (by omega), if_neg (by omega), HWD.out]
          rw [hme] at hen
          rw [hh, ← hen] at hE2
          have hd126 : ¬ ((decN (s.data.toList.drop k)).1 : Int) = 126 ∧ ¬ ((decN (s.data.toList.drop k)).1 : Int) = 47 := by
            have hr := dec_rl (s.data.toList.drop k).length (natL (s.data.toList.drop k) 0) (natL (s.data.toList.drop k) 1) (natL (s.data.toList.drop k) 2) (natL (s.data.toList.drop k) 3) (by omega) (natL_lt _ _) (natL_lt _ _) (natL_lt _ _) (natL_lt _ _)
            have e : rl (s.data.toList.drop k).length (natL (s.data.toList.drop k) 0) (natL (s.data.toList.drop k) 1) (natL (s.data.toList.drop k) 2) (natL (s.data.toList.drop k) 3) = rlL (s.data.toList.drop k) := rfl
            rw [e] at hr
            have h2 := (hr.2 h0).2.1
            have e2 : Go.Lib.decodeN (s.data.toList.drop k).length (natL (s.data.toList.drop k) 0) (natL (s.data.toList.drop k) 1) (natL (s.data.toList.drop k) 2) (natL (s.data.toList.drop k) 3) = decN (s.data.toList.drop k) := rfl
            rw [e2] at h2
            by_cases ha : c < 128
            · have : decN (s.data.toList.drop k) = (natL (s.data.toList.drop k) 0, 1) := by unfold decN Go.Lib.decodeN; rw [if_pos (by omega)]
              rw [this]
              show ¬ ((natL (s.data.toList.drop k) 0 : Nat) : Int) = 126 ∧ ¬ ((natL (s.data.toList.drop k) 0 : Nat) : Int) = 47
              omega
            · have := (h2 (by omega)).2
              omega
          have hel := enc_length ((decN (s.data.toList.drop k)).1 : Int)
          generalize (decN (s.data.toList.drop k)).1 = r at *
          have e126 : ((r : Int) == 126) = false := by simpa using hd126.1
          have e47 : ((r : Int) == 47) = false := by simpa using hd126.2
          have hpl : ∀ g o, place u0 = some (g, o) → g < w2.heap.size := HB1.out.place_lt
          have HAR := Lib.hid (appendRune (r : Int) (by omega) (by omega) hv.2 w2.heap.size (place u0) u0 (l0 ++ out) w2 HB1.out.rebase (by rw [List.length_append]; omega) (Nat.le_refl _) hpl)
          have HE2 := Lib.hid hE2
          obtain ⟨E, hEE⟩ : ∃ E, E = Lib.encodeRune (r : Int) := ⟨_, rfl⟩
          rw [← hEE] at HAR HE2
          clear hE2 hv hen hme hh hd126 hel hpl hB hF h126 h47 hc hEE
          go_wp2_with fail
          refine HAR.out.mono ?_
          rintro e w5 ⟨v5, rfl, hb5, hf5, _⟩
          have HI5 : Hid (w5.heap[K]? = some (.stringIter s (k + wd))) := Lib.hid ((hf5.block K (Array.getElem?_eq_some_iff.1 HI1.out).1 (fun o q => HB1.out.notIter HI1.out (place_ownE q))).trans HI1.out)
          have HB5 : Hid (Buf w5 base G v5 (l0 ++ (out ++ E))) := Lib.hid (by have := HB1.out.unbase hb5 HSZ.out; simpa only [List.append_assoc] using this)
          have HF5 := Lib.hid (HF1.out.trans (hf5.unbase HB1.out HSZ.out HG.out))
          clear hb5 hf5 HI1 HB1 HF1 HAR
          go_wp2
          go_roundg (n - (k + wd))
          case measure => omega
          case rel => exact ⟨k + wd, out ++ E, hld, rfl, HI5, HB5, HF5, HE2, HT1⟩
    · have hks : ¬ k < s.size := by rw [← HNS.out]; exact hkn
      have hnx := fun ty => Lib.run_next_end_at (P := Try.prog) wr K s k ty hI.out hks
      have hz : s.data.toList.drop k = [] := List.drop_of_length_le (by rw [← HN.out]; omega)
      have hq : Q = out := by rw [hE.out, hz]; show out ++ [] = out; rw [List.append_nil]
      have HB1 : Hid (Buf wr base G u0 (l0 ++ Q)) := Lib.hid (by rw [hq]; exact hB.out)
      clear hz hq hE hT hI hB
      go_wp2
      go_ret
      exact ⟨u0, rfl, HB1.out, hF.out⟩
end Go.Proofs.Ytegfdgmbhnfeeaa
