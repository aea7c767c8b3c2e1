/- The old package's appendString (the text of a string behind other bytes, escaped for HTML), walked. -/
import Derived.Test.YtklncgmfbflooaaDoorOldQP
import Derived.Test.YtklncgmfbflooaaDoorLaidSafe
import Derived.Test.YtklncgmfbflooaaDoorDecS
import Derived.Test.YtklncgmfbflooaaDoorWidth
import Derived.Test.YtklncgmfbflooaaDoorHtml
import Derived.Deep.DeepFit
import Derived.Outline
namespace Go.Proofs.YtklncgmfbflooaaDoor
open Go.RowKit
/-- The package-level variables that are read. -/
structure OTabs (w : World) : Prop where
  u8 : Lib.Utf8Tabs 3 4 w
  safe : SafeAt w
theorem OTabs.same {w w' : World} (h : OTabs w) (hs : ∀ k, k < 5 → w'.heap[k]? = w.heap[k]?) : OTabs w' :=
  ⟨⟨fun c hc => (World.cell?_of_block (a := ⟨3, c, none⟩) (hs 3 (by decide))).trans (h.u8.1 c hc), fun i hi => ⟨(World.cell?_of_block (a := ⟨4, 2 * i, none⟩) (hs 4 (by decide))).trans (h.u8.2 i hi).1, (World.cell?_of_block (a := ⟨4, 2 * i + 1, none⟩) (hs 4 (by decide))).trans (h.u8.2 i hi).2⟩⟩,
   fun c hc => (World.cell?_of_block (a := ⟨0, c, none⟩) (hs 0 (by decide))).trans (h.safe c hc)⟩
theorem OTabs.fr {w w' : World} {base : Nat} {G : Option (Nat × Nat)} (h : OTabs w) (f : Fr base G w w') (hb : 5 ≤ base) (hG : ∀ g o, G = some (g, o) → 5 ≤ g) : OTabs w' :=
  h.same fun k hk => f.block k (by omega) fun o e => by have := hG k o e; omega
theorem OTabs.below {w w' : World} {n : Nat} (h : OTabs w) (hb : Below n w w') (hn : 5 ≤ n) : OTabs w' := h.same fun k hk => hb.block k (by omega)
theorem OTabs.size {w : World} (h : OTabs w) : 5 ≤ w.heap.size := by
  have h4 := (h.u8.2 0 (by omega)).1
  unfold World.cell? at h4
  rcases Nat.lt_or_ge 4 w.heap.size with h5 | h5
  · exact h5
  · rw [Array.getElem?_eq_none (by show w.heap.size ≤ 4; omega)] at h4; cases h4
/-- What of a text the decoder is handed. -/
theorem decN_take4 (l : List UInt8) : decN (l.take 4) = decN l := by
  have e : ∀ j, j < 4 → natL (l.take 4) j = natL l j := fun j hj => by
    unfold natL
    rw [List.getD_eq_getElem?_getD, List.getD_eq_getElem?_getD, List.getElem?_take, if_pos hj]
  unfold decN
  rw [e 0 (by omega), e 1 (by omega), e 2 (by omega), e 3 (by omega), List.length_take]
  generalize l.length = n
  unfold Go.Lib.decodeN
  by_cases h : n ≤ 4
  · rw [Nat.min_eq_right h]
  · rw [Nat.min_eq_left (by omega)]
    have f1 : 1 < n := by omega
    have f2 : 2 < n := by omega
    have f3 : 3 < n := by omega
    simp [f1, f2, f3]
theorem src_new {w : World} {g n : Nat} {l : List UInt8} (hl : l.length = n) (h : BytesAt w g 0 l) : Src w 56 (.slice (some ⟨g, 0, none⟩) n n) l := by
  subst hl; exact Src.slice g 0 _ l h
theorem i32_nib8 : bits BinOp.and IntKind.i32 8232 15 = 8 := by decide
theorem i32_nib9 : bits BinOp.and IntKind.i32 8233 15 = 9 := by decide
theorem u8_nib_all : ∀ c : Fin 256, bits BinOp.and IntKind.u8 (c.val : Int) 15 = ((c.val % 16 : Nat) : Int) := by decide +kernel
set_option maxRecDepth 100000 in
set_option maxHeartbeats 8000000 in
theorem appendString (base : Nat) (G : Option (Nat × Nat)) (v : Value) (l : List UInt8) (s : ByteArray) (w : World)
    (hB : Buf w base G v l) (hsz : l.length + 6 * s.size + 8 ≤ 140737488355328) (hbase : base ≤ w.heap.size) (hG : ∀ g o, G = some (g, o) → g < base) (hT : OTabs w) (hGB : 5 ≤ base) (hGG : ∀ g o, G = some (g, o) → 5 ≤ g) :
    Calls Tryd.prog 49 #[v, .string s, .bool true] w (HtmlPost base G (l ++ [34] ++ runF opiece 0 s.data.toList ++ [34]) w) := by
  obtain ⟨m, hm⟩ : ∃ m, m = s.data.toList := ⟨_, rfl⟩
  obtain ⟨n, hn⟩ : ∃ n, n = s.size := ⟨_, rfl⟩
  have hnm : m.length = n := by rw [hm, hn, size_list]
  have hlenQ := runF_length opiece 6 (fun l hl => opiece_length l hl) m.length m (Nat.le_refl _)
  rw [← hm]
  obtain ⟨Q, hQ⟩ : ∃ Q, Q = runF opiece 0 m := ⟨_, rfl⟩
  rw [← hQ] at hlenQ ⊢
  rw [← hn] at hsz
  have hnb : n ≤ 23456248059221 := by omega
  have HN := Lib.hid hnm
  have HM := Lib.hid hm
  have HNS := Lib.hid hn
  have HQ := Lib.hid hQ
  have HLQ := Lib.hid hlenQ
  have HSZ := Lib.hid hsz
  have HT := Lib.hid hT
  have HBQ : Hid (∀ (k i : Nat) (out : List UInt8), QInv opiece m k i out → out.length + (k - i) ≤ 6 * n) := fun _ _ _ q => by have h1 := q.bound; rw [← HQ.out] at h1; have := HLQ.out; rw [HN.out] at this; omega
  have hs0 : Hid (QInv opiece m 0 0 []) := QInv.start opiece m
  have hsn : (s.size : Int) = n := by rw [hn]
  have hsn' : s.size = n := hn.symm
  clear hn hQ hlenQ hsz hT hnm hm
  have hq1 : Hid (BytesAt (w.alloc (Obj.cells #[.int .u8 34] 5)) w.heap.size 0 [34]) := bytes_new w [34] 5
  go_enter Tryd.func49, Tryd.ntmps49
  go_wp2_with (at_builtin; refine wpList_append_buf rfl (.tmp 13) (.tmp 14) 56 rfl base G v l rfl (hB.alloc _) _ [34] rfl (src_new rfl hq1.out) ?c1 ?c2 hG ?_)
  case c1 => have := HSZ.out; simp; omega
  case c2 => simp; omega
  intro v2 w2 hb2 hg2 hf2 _
  have hf3 := Fr.trans ((Fr.refl base G w).alloc _ hbase hG) hf2
  obtain ⟨L0, hL0⟩ : ∃ L0, L0 = l ++ [34] := ⟨_, rfl⟩
  rw [← hL0] at hb2
  have HL0 := Lib.hid hL0
  have hsz0 : Hid (L0.length + 6 * n + 7 ≤ 140737488355328) := by have := HSZ.out; show _ ≤ _; rw [hL0]; simp; omega
  clear hL0
  clear hq1 hB hg2 hf2
  go_wp2
  go_loopw [0, 7, 8] (fun b i k wr => ∃ (i' k' : Nat) (out : List UInt8), k' ≤ n ∧ i' ≤ k' ∧ i = .int .i64 i' ∧ k = .int .i64 k' ∧ Buf wr base G b (L0 ++ out) ∧ Fr base G w wr ∧ Hid (QInv opiece m k' i' out)) (fun _ _ k _ => n - (intOf k).toNat)
  case atStart => exact ⟨0, 0, [], Nat.zero_le _, Nat.le_refl _, rfl, rfl, by rw [List.append_nil]; exact hb2, hf3, hs0⟩
  case round =>
    clear hb2 hf3 hs0
    obtain ⟨i, k, out, hk, hik, rfl, rfl, hb, hf, hI⟩ := hrel
    have hTr : Hid (OTabs wr) := HT.out.fr hf hGB hGG
    by_cases hkn : k < n
    · have hkm : Hid (k < m.length) := by have := HN.out; show _ < _; omega
      have hks : k < s.size := by omega
      obtain ⟨c, hc⟩ : ∃ c, c = natL m k := ⟨_, rfl⟩
      have hc256 : c < 256 := by rw [hc]; exact natL_lt m k
      have hnd : Hid (natL (m.drop k) 0 = c) := by show _ = _; rw [natL_drop, hc]; rfl
      have hi : ∀ h, (((s[k]'h).toNat : Nat) : Int) = (c : Int) := fun h => by rw [at_eq s k h, hc, ← HM.out, natL_at]
      clear hc
      by_cases hlo : c < 128
      · have hlo' : (c : Int) < 128 := by omega
        have hw1 : Hid (decW (m.drop k) = 1) := (decW_ascii (m.drop k) (by rw [hnd.out]; exact hlo)).2
        have ce := hTr.out.safe c hlo
        by_cases hsf : safeT c = true
        · rw [hsf] at ce
          have hpc : opiece (m.drop k) = (m.drop k).take 1 := opiece_plain _ (by rw [hnd.out]; exact hlo) (by rw [hnd.out]; exact hsf)
          have HI : Hid (QInv opiece m (k + 1) i out) := hI.out.raw hkm.out 1 hw1.out hpc
          clear hsf hpc
          go_wp2
          go_roundw
          case rel => exact ⟨i, k + 1, out, by omega, by omega, rfl, by go_num, hb, hf, HI⟩
          case measure => simp [intOf]; omega
        · have hsf' : safeT c = false := by simpa using hsf
          rw [hsf'] at ce
          have hpc : opiece (m.drop k) = oesc c := by rw [opiece_esc _ (by rw [hnd.out]; exact hlo) (by rw [hnd.out]; exact hsf'), hnd.out]
          have HI : Hid (QInv opiece m (k + 1) (k + 1) (out ++ (m.drop i).take (k - i) ++ oesc c)) := hI.out.esc hkm.out 1 _ hw1.out hpc
          have hlen : Hid (out.length + (k - i) ≤ 6 * n) := HBQ.out _ _ _ hI.out
          have hlen2 : Hid ((L0 ++ out).length + (k - i) + 6 ≤ 140737488355328) := by have h1 := hsz0.out; have h2 := hlen.out; show _ ≤ _; simp; omega
          have hsf2 := Lib.hid hsf'
          clear hpc hsf hsf'
          by_cases h92 : c = 92
          · subst h92
            have eE : oesc 92 = [92, 92] := rfl
            rw [eE] at HI
            clear eE
            simp only [show ((92 : Nat) : Int) = 92 from rfl] at hi ce
            go_wp2_with (at_builtin; refine wpList_append_buf rfl (.tmp 39) (.tmp 43) 9 rfl base G u0 (L0 ++ out) rfl hb _ _ rfl (src_sub s i k) ?c1 (Nat.le_trans hbase hf.size) hG ?_)
            case c1 => have h1 := hlen2.out; rw [List.length_take]; omega
            intro v1 w1 hb1 hg1 hf1 _
            have hf' := hf.trans hf1
            clear hg1 hf1
            rw [HM.out.symm] at hb1
            go_wp2_with (at_builtin; refine wpList_append_buf rfl (.tmp 58) (.tmp 60) 56 rfl base G v1 _ rfl (hb1.alloc _) _ [92, 92] rfl (src_new rfl (bytes_new w1 [92, 92] _)) ?c1 ?c2 hG ?_)
            case c1 => have h1 := hlen2.out; simp only [List.length_append, List.length_take, List.length_cons, List.length_nil] at h1 ⊢; omega
            case c2 => have h1 := hf'.size; simp; omega
            intro v2 w2 hb2 hg2 hf2 _
            have hfb := Fr.trans (hf'.alloc _ hbase hG) hf2
            clear hg2 hf2 hf' hf hb1
            go_wp2
            go_roundw
            case rel => exact ⟨k + 1, k + 1, _, by omega, Nat.le_refl _, by go_num, by go_num, by simpa only [List.append_assoc] using hb2, hfb, HI⟩
            case measure => simp [intOf]; omega
          · have _u := hlo
            by_cases h34 : c = 34
            · subst h34
              have eE : oesc 34 = [92, 34] := rfl
              rw [eE] at HI
              clear eE
              simp only [show ((34 : Nat) : Int) = 34 from rfl] at hi ce
              go_wp2_with (at_builtin; refine wpList_append_buf rfl (.tmp 39) (.tmp 43) 9 rfl base G u0 (L0 ++ out) rfl hb _ _ rfl (src_sub s i k) ?c1 (Nat.le_trans hbase hf.size) hG ?_)
              case c1 => have h1 := hlen2.out; rw [List.length_take]; omega
              intro v1 w1 hb1 hg1 hf1 _
              have hf' := hf.trans hf1
              clear hg1 hf1
              rw [HM.out.symm] at hb1
              go_wp2_with (at_builtin; refine wpList_append_buf rfl (.tmp 58) (.tmp 60) 56 rfl base G v1 _ rfl (hb1.alloc _) _ [92, 34] rfl (src_new rfl (bytes_new w1 [92, 34] _)) ?c1 ?c2 hG ?_)
              case c1 => have h1 := hlen2.out; simp only [List.length_append, List.length_take, List.length_cons, List.length_nil] at h1 ⊢; omega
              case c2 => have h1 := hf'.size; simp; omega
              intro v2 w2 hb2 hg2 hf2 _
              have hfb := Fr.trans (hf'.alloc _ hbase hG) hf2
              clear hg2 hf2 hf' hf hb1
              go_wp2
              go_roundw
              case rel => exact ⟨k + 1, k + 1, _, by omega, Nat.le_refl _, by go_num, by go_num, by simpa only [List.append_assoc] using hb2, hfb, HI⟩
              case measure => simp [intOf]; omega
            · have _u := hlo
              by_cases h8 : c = 8
              · subst h8
                have eE : oesc 8 = [92, 98] := rfl
                rw [eE] at HI
                clear eE
                simp only [show ((8 : Nat) : Int) = 8 from rfl] at hi ce
                go_wp2_with (at_builtin; refine wpList_append_buf rfl (.tmp 39) (.tmp 43) 9 rfl base G u0 (L0 ++ out) rfl hb _ _ rfl (src_sub s i k) ?c1 (Nat.le_trans hbase hf.size) hG ?_)
                case c1 => have h1 := hlen2.out; rw [List.length_take]; omega
                intro v1 w1 hb1 hg1 hf1 _
                have hf' := hf.trans hf1
                clear hg1 hf1
                rw [HM.out.symm] at hb1
                go_wp2_with (at_builtin; refine wpList_append_buf rfl (.tmp 64) (.tmp 65) 56 rfl base G v1 _ rfl (hb1.alloc _) _ [92, 98] rfl (src_new rfl (bytes_new w1 [92, 98] _)) ?c1 ?c2 hG ?_)
                case c1 => have h1 := hlen2.out; simp only [List.length_append, List.length_take, List.length_cons, List.length_nil] at h1 ⊢; omega
                case c2 => have h1 := hf'.size; simp; omega
                intro v2 w2 hb2 hg2 hf2 _
                have hfb := Fr.trans (hf'.alloc _ hbase hG) hf2
                clear hg2 hf2 hf' hf hb1
                go_wp2
                go_roundw
                case rel => exact ⟨k + 1, k + 1, _, by omega, Nat.le_refl _, by go_num, by go_num, by simpa only [List.append_assoc] using hb2, hfb, HI⟩
                case measure => simp [intOf]; omega
              · have _u := hlo
                by_cases h12 : c = 12
                · subst h12
                  have eE : oesc 12 = [92, 102] := rfl
                  rw [eE] at HI
                  clear eE
                  simp only [show ((12 : Nat) : Int) = 12 from rfl] at hi ce
                  go_wp2_with (at_builtin; refine wpList_append_buf rfl (.tmp 39) (.tmp 43) 9 rfl base G u0 (L0 ++ out) rfl hb _ _ rfl (src_sub s i k) ?c1 (Nat.le_trans hbase hf.size) hG ?_)
                  case c1 => have h1 := hlen2.out; rw [List.length_take]; omega
                  intro v1 w1 hb1 hg1 hf1 _
                  have hf' := hf.trans hf1
                  clear hg1 hf1
                  rw [HM.out.symm] at hb1
                  go_wp2_with (at_builtin; refine wpList_append_buf rfl (.tmp 69) (.tmp 70) 56 rfl base G v1 _ rfl (hb1.alloc _) _ [92, 102] rfl (src_new rfl (bytes_new w1 [92, 102] _)) ?c1 ?c2 hG ?_)
                  case c1 => have h1 := hlen2.out; simp only [List.length_append, List.length_take, List.length_cons, List.length_nil] at h1 ⊢; omega
                  case c2 => have h1 := hf'.size; simp; omega
                  intro v2 w2 hb2 hg2 hf2 _
                  have hfb := Fr.trans (hf'.alloc _ hbase hG) hf2
                  clear hg2 hf2 hf' hf hb1
                  go_wp2
                  go_roundw
                  case rel => exact ⟨k + 1, k + 1, _, by omega, Nat.le_refl _, by go_num, by go_num, by simpa only [List.append_assoc] using hb2, hfb, HI⟩
                  case measure => simp [intOf]; omega
                · have _u := hlo
                  by_cases h10 : c = 10
                  · subst h10
                    have eE : oesc 10 = [92, 110] := rfl
                    rw [eE] at HI
                    clear eE
                    simp only [show ((10 : Nat) : Int) = 10 from rfl] at hi ce
                    go_wp2_with (at_builtin; refine wpList_append_buf rfl (.tmp 39) (.tmp 43) 9 rfl base G u0 (L0 ++ out) rfl hb _ _ rfl (src_sub s i k) ?c1 (Nat.le_trans hbase hf.size) hG ?_)
                    case c1 => have h1 := hlen2.out; rw [List.length_take]; omega
                    intro v1 w1 hb1 hg1 hf1 _
                    have hf' := hf.trans hf1
                    clear hg1 hf1
                    rw [HM.out.symm] at hb1
                    go_wp2_with (at_builtin; refine wpList_append_buf rfl (.tmp 74) (.tmp 75) 56 rfl base G v1 _ rfl (hb1.alloc _) _ [92, 110] rfl (src_new rfl (bytes_new w1 [92, 110] _)) ?c1 ?c2 hG ?_)
                    case c1 => have h1 := hlen2.out; simp only [List.length_append, List.length_take, List.length_cons, List.length_nil] at h1 ⊢; omega
                    case c2 => have h1 := hf'.size; simp; omega
                    intro v2 w2 hb2 hg2 hf2 _
                    have hfb := Fr.trans (hf'.alloc _ hbase hG) hf2
                    clear hg2 hf2 hf' hf hb1
                    go_wp2
                    go_roundw
                    case rel => exact ⟨k + 1, k + 1, _, by omega, Nat.le_refl _, by go_num, by go_num, by simpa only [List.append_assoc] using hb2, hfb, HI⟩
                    case measure => simp [intOf]; omega
                  · have _u := hlo
                    by_cases h13 : c = 13
                    · subst h13
                      have eE : oesc 13 = [92, 114] := rfl
                      rw [eE] at HI
                      clear eE
                      simp only [show ((13 : Nat) : Int) = 13 from rfl] at hi ce
                      go_wp2_with (at_builtin; refine wpList_append_buf rfl (.tmp 39) (.tmp 43) 9 rfl base G u0 (L0 ++ out) rfl hb _ _ rfl (src_sub s i k) ?c1 (Nat.le_trans hbase hf.size) hG ?_)
                      case c1 => have h1 := hlen2.out; rw [List.length_take]; omega
                      intro v1 w1 hb1 hg1 hf1 _
                      have hf' := hf.trans hf1
                      clear hg1 hf1
                      rw [HM.out.symm] at hb1
                      go_wp2_with (at_builtin; refine wpList_append_buf rfl (.tmp 79) (.tmp 80) 56 rfl base G v1 _ rfl (hb1.alloc _) _ [92, 114] rfl (src_new rfl (bytes_new w1 [92, 114] _)) ?c1 ?c2 hG ?_)
                      case c1 => have h1 := hlen2.out; simp only [List.length_append, List.length_take, List.length_cons, List.length_nil] at h1 ⊢; omega
                      case c2 => have h1 := hf'.size; simp; omega
                      intro v2 w2 hb2 hg2 hf2 _
                      have hfb := Fr.trans (hf'.alloc _ hbase hG) hf2
                      clear hg2 hf2 hf' hf hb1
                      go_wp2
                      go_roundw
                      case rel => exact ⟨k + 1, k + 1, _, by omega, Nat.le_refl _, by go_num, by go_num, by simpa only [List.append_assoc] using hb2, hfb, HI⟩
                      case measure => simp [intOf]; omega
                    · have _u := hlo
                      by_cases h9 : c = 9
                      · subst h9
                        have eE : oesc 9 = [92, 116] := rfl
                        rw [eE] at HI
                        clear eE
                        simp only [show ((9 : Nat) : Int) = 9 from rfl] at hi ce
                        go_wp2_with (at_builtin; refine wpList_append_buf rfl (.tmp 39) (.tmp 43) 9 rfl base G u0 (L0 ++ out) rfl hb _ _ rfl (src_sub s i k) ?c1 (Nat.le_trans hbase hf.size) hG ?_)
                        case c1 => have h1 := hlen2.out; rw [List.length_take]; omega
                        intro v1 w1 hb1 hg1 hf1 _
                        have hf' := hf.trans hf1
                        clear hg1 hf1
                        rw [HM.out.symm] at hb1
                        go_wp2_with (at_builtin; refine wpList_append_buf rfl (.tmp 84) (.tmp 85) 56 rfl base G v1 _ rfl (hb1.alloc _) _ [92, 116] rfl (src_new rfl (bytes_new w1 [92, 116] _)) ?c1 ?c2 hG ?_)
                        case c1 => have h1 := hlen2.out; simp only [List.length_append, List.length_take, List.length_cons, List.length_nil] at h1 ⊢; omega
                        case c2 => have h1 := hf'.size; simp; omega
                        intro v2 w2 hb2 hg2 hf2 _
                        have hfb := Fr.trans (hf'.alloc _ hbase hG) hf2
                        clear hg2 hf2 hf' hf hb1
                        go_wp2
                        go_roundw
                        case rel => exact ⟨k + 1, k + 1, _, by omega, Nat.le_refl _, by go_num, by go_num, by simpa only [List.append_assoc] using hb2, hfb, HI⟩
                        case measure => simp [intOf]; omega
                      · have _u := hlo
                        have n92 : ((c : Int) == 92) = false := by simp; omega
                        have n34 : ((c : Int) == 34) = false := by simp; omega
                        have n8 : ((c : Int) == 8) = false := by simp; omega
                        have n12 : ((c : Int) == 12) = false := by simp; omega
                        have n10 : ((c : Int) == 10) = false := by simp; omega
                        have n13 : ((c : Int) == 13) = false := by simp; omega
                        have n9 : ((c : Int) == 9) = false := by simp; omega
                        have eE : oesc c = [92, 117, 48, 48, UInt8.ofNat (hexd (c / 16)), UInt8.ofNat (hexd (c % 16))] := by unfold oesc; rw [if_neg (by omega), if_neg h8, if_neg h12, if_neg h10, if_neg h13, if_neg h9]
                        rw [eE] at HI
                        clear eE
                        obtain ⟨x, hx, ex⟩ : ∃ a, a < 16 ∧ c / 16 = a := ⟨_, by omega, rfl⟩
                        obtain ⟨y, hy, ey⟩ : ∃ a, a < 16 ∧ c % 16 = a := ⟨_, Nat.mod_lt _ (by omega), rfl⟩
                        have e1 : (c : Int) / 16 = (x : Int) := by omega
                        have e2 : bits BinOp.and IntKind.u8 (c : Int) 15 = (y : Int) := by rw [u8_nib_all ⟨c, hc256⟩, ey]
                        rw [ex, ey] at HI
                        clear ex ey
                        have x16 : (x : Int) < 16 := by omega
                        have y16 : (y : Int) < 16 := by omega
                        have ix : ∀ h, ((((⟨#[48, 49, 50, 51, 52, 53, 54, 55, 56, 57, 97, 98, 99, 100, 101, 102]⟩ : ByteArray)[x]'h).toNat : Nat) : Int) = (hexd x : Int) := fun h => hexS_at x hx h
                        have iy : ∀ h, ((((⟨#[48, 49, 50, 51, 52, 53, 54, 55, 56, 57, 97, 98, 99, 100, 101, 102]⟩ : ByteArray)[y]'h).toNat : Nat) : Int) = (hexd y : Int) := fun h => hexS_at y hy h
                        have eN : nums [92, 117, 48, 48, UInt8.ofNat (hexd x), UInt8.ofNat (hexd y)] = [.int .u8 92, .int .u8 117, .int .u8 48, .int .u8 48, .int .u8 (hexd x), .int .u8 (hexd y)] := by
                          have q : ∀ n, n < 16 → (UInt8.ofNat (hexd n)).toNat = hexd n := fun n hn => by
                            have := hexd_lt n hn
                            rw [UInt8.toNat_ofNat']; omega
                          simp only [nums, List.map_cons, List.map_nil, q x hx, q y hy]
                          rfl
                        have hby : Hid (∀ W : World, BytesAt (W.alloc (Obj.cells #[.int .u8 92, .int .u8 117, .int .u8 48, .int .u8 48, .int .u8 (hexd x), .int .u8 (hexd y)] 5)) W.heap.size 0 [92, 117, 48, 48, UInt8.ofNat (hexd x), UInt8.ofNat (hexd y)]) := fun W => by
                          have := bytes_new W [92, 117, 48, 48, UInt8.ofNat (hexd x), UInt8.ofNat (hexd y)] 5
                          rwa [eN] at this
                        clear eN h92 h34 h8 h12 h10 h13 h9
                        generalize hexd x = X at ix hby HI
                        generalize hexd y = Y at iy hby HI
                        go_wp2_with (at_builtin; refine wpList_append_buf rfl (.tmp 39) (.tmp 43) 9 rfl base G u0 (L0 ++ out) rfl hb _ _ rfl (src_sub s i k) ?c1 (Nat.le_trans hbase hf.size) hG ?_)
                        case c1 => have h1 := hlen2.out; rw [List.length_take]; omega
                        intro v1 w1 hb1 hg1 hf1 _
                        have hf' := hf.trans hf1
                        clear hg1 hf1
                        rw [HM.out.symm] at hb1
                        go_wp2
                        go_region_law (refine step_append_buf rfl (.tmp 46) (.tmp 53) 56 rfl base G v1 _ rfl ((show Buf w1.drew base G v1 _ from hb1).alloc _) _ [92, 117, 48, 48, UInt8.ofNat X, UInt8.ofNat Y] rfl (Src.slice _ 0 6 [92, 117, 48, 48, UInt8.ofNat X, UInt8.ofNat Y] (hby.out w1.drew)) (by have h1 := hlen2.out; simp only [List.length_append, List.length_take, List.length_cons, List.length_nil] at h1 ⊢; omega) (by have := hbase; have := hf'.size; simp; omega) hG ?_; intro v2 w2 hb2 hg2 hf2 _)
                        all_goals
                          have hfb := Fr.trans (hf'.allocd _ hbase hG) hf2
                          clear hg2 hf2 hf' hf hb1
                          go_wp2
                          go_roundw
                          case rel => exact ⟨k + 1, k + 1, _, by omega, Nat.le_refl _, by go_num, by go_num, by simpa only [List.append_assoc] using hb2, hfb, HI⟩
                          case measure => simp [intOf]; omega
      · have hlo' : ¬ (c : Int) < 128 := by omega
        have hbig : Hid (¬ natL (m.drop k) 0 < 128) := by show ¬ _; rw [hnd.out]; exact hlo
        have hpos := drop_pos hkm.out
        have hdr := decW_range (m.drop k) hpos
        rw [List.length_drop, HN.out] at hdr
        obtain ⟨q, hq⟩ : ∃ q : Nat, q = min (n - k) 4 := ⟨_, rfl⟩
        have hmin : min ((n : Int) - (k : Int)) 4 = (q : Int) := by omega
        have hq0 : 0 < q ∧ q ≤ 4 ∧ k + q ≤ n := by omega
        have hex : (s.extract k (k + q)).data.toList = (m.drop k).take q := by rw [Lib.extract_data, ← HM.out]; congr 1; omega
        have hdec : ∀ W, OTabs W → Calls Tryd.prog 67 #[.string (s.extract k (k + q))] W fun e w' => e = .returned (.tuple #[.int .i32 (decN (m.drop k)).1, .int .i64 (decN (m.drop k)).2]) ∧ Below W.heap.size W w' := fun W hW => by
          have := decodeRuneS (s.extract k (k + q)) W hW.u8 (by rw [ByteArray.size_extract]; omega)
          rw [hex] at this
          have e4 : decN ((m.drop k).take q) = decN (m.drop k) := by
            rw [← decN_take4 ((m.drop k).take q), List.take_take, ← decN_take4 (m.drop k)]
            by_cases h4 : n - k ≤ 4
            · rw [List.take_of_length_le (by rw [List.length_drop, HN.out]; omega), List.take_of_length_le (by rw [List.length_drop, HN.out]; omega)]
            · congr 2; omega
          rw [e4] at this
          exact this
        obtain ⟨hq1, hq4, hqn⟩ := hq0
        obtain ⟨d0, d1, d2, d3⟩ := dec_headO (m.drop k) hpos
        obtain ⟨r, hr⟩ : ∃ r, r = (decN (m.drop k)).1 := ⟨_, rfl⟩
        obtain ⟨wd, hwd⟩ : ∃ x, x = decW (m.drop k) := ⟨_, rfl⟩
        have hdec := hdec wr hTr.out
        rw [← hr, d2, ← hwd] at hdec
        rw [← hwd] at hdr
        have HWD : Hid (decW (m.drop k) = wd) := hwd.symm
        have HD := Lib.hid hdec
        clear hdec hpos hwd hex hq
        have i1 : IntKind.i64.wrap ((k : Int) + (q : Int)) = ((k + q : Nat) : Int) := by rw [IntKind.wrap_i64]; omega
        have I1 := i1
        clear i1
        by_cases hz : rlL (m.drop k) = 0
        · have hr65 : r = 65533 := by rw [hr, d0 hz]
          have hwd1 : wd = 1 := by rw [← HWD.out]; unfold decW; rw [if_pos hz]
          have hpc : opiece (m.drop k) = [92, 117, 102, 102, 102, 100] := opiece_bad _ hbig.out hz
          have HI : Hid (QInv opiece m (k + 1) (k + 1) (out ++ (m.drop i).take (k - i) ++ [92, 117, 102, 102, 102, 100])) := hI.out.esc hkm.out 1 _ (by rw [HWD.out, hwd1]) hpc
          have hlen2 : Hid ((L0 ++ out).length + (k - i) + 6 ≤ 140737488355328) := by have h1 := hsz0.out; have h2 := HBQ.out _ _ _ hI.out; show _ ≤ _; simp; omega
          subst hr65 hwd1
          simp only [show ((65533 : Nat) : Int) = 65533 from rfl, show ((1 : Nat) : Int) = 1 from rfl] at HD
          clear d0 d1 d2 d3 hr hz hpc hdr HWD
          go_wp2_with fail
          refine HD.out.mono ?_
          rintro e wg ⟨rfl, hbg⟩
          have hbw : Buf wg base G u0 (L0 ++ out) := hb.belowA hbg
          have hfw : Fr base G w wg := hf.trans (Fr.of_belowA hbg (Nat.le_trans hbase hf.size) hG)
          clear hbg HD hb hf
          go_wp2_with (at_builtin; refine wpList_append_buf rfl (.tmp 111) (.tmp 115) 9 rfl base G u0 (L0 ++ out) rfl hbw _ _ rfl (src_sub s i k) ?c1 (Nat.le_trans hbase hfw.size) hG ?_)
          case c1 => have h1 := hlen2.out; rw [List.length_take]; omega
          intro v1 w1 hb1 hg1 hf1 _
          have hf' := hfw.trans hf1
          clear hg1 hf1
          rw [HM.out.symm] at hb1
          go_wp2_with (at_builtin; refine wpList_append_buf rfl (.tmp 117) (.const (.string ⟨#[92, 117, 102, 102, 102, 100]⟩)) 9 rfl base G v1 _ rfl hb1 _ [92, 117, 102, 102, 102, 100] rfl (Src.text ⟨#[92, 117, 102, 102, 102, 100]⟩) ?c1 (Nat.le_trans hbase hf'.size) hG ?_)
          case c1 => have h1 := hlen2.out; simp only [List.length_append, List.length_take, List.length_cons, List.length_nil] at h1 ⊢; omega
          intro v2 w2 hb2 hg2 hf2 _
          have hfb := hf'.trans hf2
          clear hg2 hf2 hf' hb1
          go_wp2
          go_roundw
          case rel => exact ⟨k + 1, k + 1, _, by omega, Nat.le_refl _, by go_num, by go_num, by simpa only [List.append_assoc] using hb2, hfb, HI⟩
          case measure => simp [intOf]; omega
        · obtain ⟨d4, d5, d6, d7⟩ := d1 hz
          have hc2 : 2 ≤ wd := by rw [← HWD.out]; exact d5 (by have := hbig.out; omega)
          have hlen2 : Hid ((L0 ++ out).length + (k - i) + 6 ≤ 140737488355328) := by have h1 := hsz0.out; have h2 := HBQ.out _ _ _ hI.out; show _ ≤ _; simp; omega
          have hwn : wd ≤ 4 ∧ k + wd ≤ n := by omega
          obtain ⟨hw4, hkw⟩ := hwn
          have w1' : ((wd : Int) == 1) = false := by simp; omega
          by_cases hjs0 : jsN (m.drop k) = 0
          · have hpc : opiece (m.drop k) = (m.drop k).take wd := by rw [opiece_wide _ hbig.out hz hjs0, HWD.out]
            have HI : Hid (QInv opiece m (k + wd) i out) := hI.out.raw hkm.out wd HWD.out hpc
            have r3 : ((r : Int) == 8232) = false := by simp; omega
            have r4 : ((r : Int) == 8233) = false := by simp; omega
            clear d0 d1 d2 d3 d4 d5 d6 d7 hr hz hpc hjs0
            by_cases h65 : ((r : Int) == 65533) = true
            · go_wp2_with fail
              refine HD.out.mono ?_
              rintro e wg ⟨rfl, hbg⟩
              have hbw : Buf wg base G u0 (L0 ++ out) := hb.belowA hbg
              have hfw : Fr base G w wg := hf.trans (Fr.of_belowA hbg (Nat.le_trans hbase hf.size) hG)
              clear hbg HD hb hf
              go_wp2
              go_roundw
              case rel => exact ⟨i, k + wd, out, by omega, by omega, rfl, by go_num, hbw, hfw, HI⟩
              case measure => simp [intOf]; omega
            · have h65 : ((r : Int) == 65533) = false := by simpa using h65
              go_wp2_with fail
              refine HD.out.mono ?_
              rintro e wg ⟨rfl, hbg⟩
              have hbw : Buf wg base G u0 (L0 ++ out) := hb.belowA hbg
              have hfw : Fr base G w wg := hf.trans (Fr.of_belowA hbg (Nat.le_trans hbase hf.size) hG)
              clear hbg HD hb hf
              go_wp2
              go_roundw
              case rel => exact ⟨i, k + wd, out, by omega, by omega, rfl, by go_num, hbw, hfw, HI⟩
              case measure => simp [intOf]; omega
          · have hjr : (r : Nat) = jsN (m.drop k) ∧ (r = 8232 ∨ r = 8233) := by
              rcases jsN_or (m.drop k) with h | h | h
              · exact absurd h hjs0
              · have := d6.2 h; omega
              · have := d7.2 h; omega
            obtain ⟨hj1, hj2⟩ := hjr
            have hpc : opiece (m.drop k) = u4 (jsN (m.drop k)) := opiece_js _ hbig.out hz hjs0
            rw [← hj1] at hpc
            have HI : Hid (QInv opiece m (k + wd) (k + wd) (out ++ (m.drop i).take (k - i) ++ u4 r)) := hI.out.esc hkm.out wd _ HWD.out hpc
            clear d0 d1 d2 d3 d4 d5 d6 d7 hr hz hpc hjs0 hj1
            rcases hj2 with rfl | rfl
            · simp only [show ((8232 : Nat) : Int) = 8232 from rfl] at HD
              have hi8 : ∀ h, ((((⟨#[48, 49, 50, 51, 52, 53, 54, 55, 56, 57, 97, 98, 99, 100, 101, 102]⟩ : ByteArray)[8]'h).toNat : Nat) : Int) = 56 := fun _ => rfl
              have e15 := i32_nib8
              go_wp2_with fail
              refine HD.out.mono ?_
              rintro e wg ⟨rfl, hbg⟩
              have hbw : Buf wg base G u0 (L0 ++ out) := hb.belowA hbg
              have hfw : Fr base G w wg := hf.trans (Fr.of_belowA hbg (Nat.le_trans hbase hf.size) hG)
              clear hbg HD hb hf
              go_wp2_with (at_builtin; refine wpList_append_buf rfl (.tmp 129) (.tmp 133) 9 rfl base G u0 (L0 ++ out) rfl hbw _ _ rfl (src_sub s i k) ?c1 (Nat.le_trans hbase hfw.size) hG ?_)
              case c1 => have h1 := hlen2.out; rw [List.length_take]; omega
              intro v1 w1 hb1 hg1 hf1 _
              have hf' := hfw.trans hf1
              clear hg1 hf1
              rw [HM.out.symm] at hb1
              go_wp2_with (at_builtin; refine wpList_append_buf rfl (.tmp 135) (.tmp 139) 56 rfl base G v1 _ rfl (hb1.alloc _) _ [92, 117, 50, 48, 50, 56] rfl (src_new rfl (bytes_new w1 [92, 117, 50, 48, 50, 56] _)) ?c1 ?c2 hG ?_)
              case c1 => have h1 := hlen2.out; simp only [List.length_append, List.length_take, List.length_cons, List.length_nil] at h1 ⊢; omega
              case c2 => have h1 := hf'.size; simp; omega
              intro v2 w2 hb2 hg2 hf2 _
              have hfb := Fr.trans (hf'.alloc _ hbase hG) hf2
              have eU : u4 8232 = [92, 117, 50, 48, 50, 56] := by decide
              rw [eU] at HI
              clear hg2 hf2 hf' hb1 eU
              go_wp2
              go_roundw
              case rel => exact ⟨k + wd, k + wd, _, by omega, Nat.le_refl _, by go_num, by go_num, by simpa only [List.append_assoc] using hb2, hfb, HI⟩
              case measure => simp [intOf]; omega
            · simp only [show ((8233 : Nat) : Int) = 8233 from rfl] at HD
              have hi9 : ∀ h, ((((⟨#[48, 49, 50, 51, 52, 53, 54, 55, 56, 57, 97, 98, 99, 100, 101, 102]⟩ : ByteArray)[9]'h).toNat : Nat) : Int) = 57 := fun _ => rfl
              have e15 := i32_nib9
              go_wp2_with fail
              refine HD.out.mono ?_
              rintro e wg ⟨rfl, hbg⟩
              have hbw : Buf wg base G u0 (L0 ++ out) := hb.belowA hbg
              have hfw : Fr base G w wg := hf.trans (Fr.of_belowA hbg (Nat.le_trans hbase hf.size) hG)
              clear hbg HD hb hf
              go_wp2_with (at_builtin; refine wpList_append_buf rfl (.tmp 129) (.tmp 133) 9 rfl base G u0 (L0 ++ out) rfl hbw _ _ rfl (src_sub s i k) ?c1 (Nat.le_trans hbase hfw.size) hG ?_)
              case c1 => have h1 := hlen2.out; rw [List.length_take]; omega
              intro v1 w1 hb1 hg1 hf1 _
              have hf' := hfw.trans hf1
              clear hg1 hf1
              rw [HM.out.symm] at hb1
              go_wp2_with (at_builtin; refine wpList_append_buf rfl (.tmp 135) (.tmp 139) 56 rfl base G v1 _ rfl (hb1.alloc _) _ [92, 117, 50, 48, 50, 57] rfl (src_new rfl (bytes_new w1 [92, 117, 50, 48, 50, 57] _)) ?c1 ?c2 hG ?_)
              case c1 => have h1 := hlen2.out; simp only [List.length_append, List.length_take, List.length_cons, List.length_nil] at h1 ⊢; omega
              case c2 => have h1 := hf'.size; simp; omega
              intro v2 w2 hb2 hg2 hf2 _
              have hfb := Fr.trans (hf'.alloc _ hbase hG) hf2
              have eU : u4 8233 = [92, 117, 50, 48, 50, 57] := by decide
              rw [eU] at HI
              clear hg2 hf2 hf' hb1 eU
              go_wp2
              go_roundw
              case rel => exact ⟨k + wd, k + wd, _, by omega, Nat.le_refl _, by go_num, by go_num, by simpa only [List.append_assoc] using hb2, hfb, HI⟩
              case measure => simp [intOf]; omega
    · have hkn' : k = n := by omega
      have hfin := hI.out.fin (by rw [HN.out]; exact hkn')
      rw [← HQ.out] at hfin
      have hlen2 : Hid ((L0 ++ out).length + (k - i) + 6 ≤ 140737488355328) := by have h1 := hsz0.out; have h2 := HBQ.out _ _ _ hI.out; show _ ≤ _; simp; omega
      clear hI hkn
      have HF := Lib.hid hfin
      clear hfin
      subst hkn'
      go_wp2_with (at_builtin; refine wpList_append_buf rfl (.tmp 148) (.tmp 151) 9 rfl base G u0 (L0 ++ out) rfl hb _ _ rfl (src_sub s i k) ?c1 (Nat.le_trans hbase hf.size) hG ?_)
      case c1 => have h1 := hlen2.out; rw [List.length_take]; omega
      intro v1 w1 hb1 hg1 hf1 _
      have hf' := hf.trans hf1
      clear hg1 hf1
      rw [HM.out.symm, ← HF.out] at hb1
      go_wp2_with (at_builtin; refine wpList_append_buf rfl (.tmp 153) (.tmp 154) 56 rfl base G v1 _ rfl (hb1.alloc _) _ [34] rfl (src_new rfl (bytes_new w1 [34] _)) ?c1 ?c2 hG ?_)
      case c1 => have h1 := hsz0.out; have h2 := HLQ.out; rw [HN.out] at h2; simp only [List.length_append, List.length_cons, List.length_nil]; omega
      case c2 => have h1 := hf'.size; simp; omega
      intro v2 w2 hb2 hg2 hf2 _
      have hfb := Fr.trans (hf'.alloc _ hbase hG) hf2
      have eL : L0 ++ (Q ++ [34]) = l ++ [34] ++ Q ++ [34] := by rw [HL0.out]; simp only [List.append_assoc]
      rw [eL] at hb2
      clear hg2 hf2 hf' hb1 eL
      have HB2 := Lib.hid hb2
      clear hb2
      go_wp2
      go_ret
      exact ⟨_, rfl, HB2.out, hfb⟩
end Go.Proofs.YtklncgmfbflooaaDoor
