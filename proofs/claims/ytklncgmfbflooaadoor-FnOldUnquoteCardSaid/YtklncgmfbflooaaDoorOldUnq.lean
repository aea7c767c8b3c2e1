/- jsonscan.unquoteBytes over the text of a string, walked. -/
import Derived.Test.YtklncgmfbflooaaDoorOldUnqB
import Derived.Deep.OwnRows
import Derived.Deep.DeepCutAuto
import Derived.Deep.CutBlock
namespace Go.Proofs.YtklncgmfbflooaaDoor
open Go.RowKit
theorem then_self (Q : Exit → Act → World → Prop) : Exit.then (Q .normal) Q = Q := by
  funext e; cases e <;> rfl
theorem wp_self {c : Code} {Q : Exit → Act → World → Prop} {a : Act} {w : World} (h : Code.wp Tryd.prog c (Exit.then (Q .normal) Q) a w) : Code.wp Tryd.prog c Q a w := then_self Q ▸ h
def UnqB (L : List UInt8) (w : World) (e : Ending) (w' : World) : Prop := ∃ g o c, e = .returned (.tuple #[.slice (some ⟨g, o, none⟩) L.length c, .bool true]) ∧ BytesAt w' g o L ∧ g < w'.heap.size ∧ Below w.heap.size w w'
theorem q_bytes {w : World} {g : Nat} {m : List UInt8} (h : BytesAt w g 0 (qT m)) (k : Nat) (hk : k ≤ m.length) : BytesAt w g (1 + k) (m.drop k) := fun j hj => by
  rw [List.length_drop] at hj
  have := h (k + 1 + j) (by rw [qT_length]; omega)
  rw [Nat.zero_add] at this
  rw [show 1 + k + j = k + 1 + j by omega, this, show k + 1 + j = (k + j) + 1 by omega, qT_at m (k + j) (by omega), natL_drop, ← natL_at, atLd]
  rfl
/-- A new row, and bytes copied to its beginning. -/
theorem mk_copy (W : World) (N g o sc : Nat) (L : List UInt8) (hb : BytesAt W g o L) (hg : g < W.heap.size) (hN : L.length ≤ N) :
    ∃ W3, (Builtin.copy_ #[56, 56] 3 #[.slice (some ⟨W.heap.size, 0, none⟩) N N, .slice (some ⟨g, o, none⟩) L.length sc]).run Tryd.prog (W.alloc (.cells (madeCells #[.int .u8 0] N) 5)) = .ok (.int .i64 L.length) W3 ∧ PBuf W3 W.heap.size N L ∧ Below W.heap.size W W3 := by
  obtain ⟨i0, hi, hz0, hz1, hz2⟩ := info_parts infoU8
  have hsz1 : (Tryd.prog.info? 5).map (·.size) = some 1 := by rw [hi]; simp [hz1]
  have hsrc : ∀ j v, (nums L)[j]? = some v → (W.alloc (.cells (madeCells #[.int .u8 0] N) 5)).cell? ((⟨g, o, none⟩ : Addr).add j) = some v := fun j v hv => by
    obtain ⟨hj, rfl⟩ := nums_get_iff hv
    rw [addr_add]
    exact (World.cell?_of_block (a := ⟨g, o + j, none⟩) (alloc_old W _ g hg)).trans (hb j hj)
  have hZs : (madeCells #[(.int .u8 0 : Value)] N).size = N := by simp [madeCells]
  have hcopy := run_copy_row (P := Tryd.prog) (W.alloc (.cells (madeCells #[.int .u8 0] N) 5)) 56 56 3 5 W.heap.size 0 N N ⟨g, o, none⟩ L.length sc _ 5 (nums L) Tryd.underlying56 hsz1 (alloc_new W _) (by rw [nums_length]; exact (Nat.min_eq_left hN).symm) hsrc (by rw [nums_length, hZs]; omega) (nums_one L)
  rw [nums_length] at hcopy
  refine ⟨_, hcopy, ?_, ?_⟩
  · generalize hY : ((madeCells #[(.int .u8 0 : Value)] N).toList.take 0 ++ nums L ++ (madeCells #[(.int .u8 0 : Value)] N).toList.drop (0 + L.length)).toArray = Y
    have hYl : Y.toList = nums L ++ (madeCells #[(.int .u8 0 : Value)] N).toList.drop L.length := by rw [← hY]; simp
    have hYs : Y.size = N := by
      have h1 := congrArg List.length hYl
      rw [List.length_append, nums_length, List.length_drop, Array.length_toList] at h1
      have h2 : (madeCells #[(.int .u8 0 : Value)] N).toList.length = N := by rw [Array.length_toList, hZs]
      omega
    have hrow := setRow_heap (W.alloc (.cells (madeCells #[.int .u8 0] N) 5)) W.heap.size _ Y 5 (0, 0) (alloc_new W _)
    refine ⟨fun j hj => ?_, fun j => ?_, fun j hj => ?_, hN, ?_⟩
    · rw [cell_of_row _ _ j _ _ _ hrow, Array.getElem?_eq_getElem (by omega)]; rfl
    · simp only [World.frozen?, hrow, Bool.and_eq_false_iff, decide_eq_false_iff_not]; omega
    · rw [Nat.zero_add, cell_of_row _ _ j _ _ _ hrow, ← Array.getElem?_toList, hYl, List.getElem?_append_left (by rw [nums_length]; exact hj)]
      exact nums_get L j hj
    · simp
  · refine ⟨rfl, rfl, rfl, by simp, fun k hk => ?_⟩
    rw [setRow_other _ _ _ _ (Nat.ne_of_lt hk)]
    exact alloc_old W _ k hk
set_option maxRecDepth 100000 in
set_option maxHeartbeats 16000000 in
theorem unqBytes (g cap : Nat) (m : List UInt8) (w : World) (hm : BytesAt w g 0 (qT m)) (hcap : m.length + 2 ≤ cap) (hsz : m.length ≤ 1000000) (hg : g < w.heap.size)
    (hT : Lib.Utf8Tabs 3 4 w) (hok : okL m = true) :
    Calls Tryd.prog 69 #[.slice (some ⟨g, 0, none⟩) (m.length + 2) cap] w (UnqB (dcL m) w) := by
  have hst : Hid (UInv m 0 0 [] false) := Lib.hid (UInv.start hok)
  have hu1 : 3 < w.heap.size := World.block_lt_of_cell? _ _ (hT.1 0 (by decide))
  have hu2 : 4 < w.heap.size := World.block_lt_of_cell? _ _ (hT.2 0 (by decide)).1
  have HT : Hid (∀ w', Below w.heap.size w w' → Lib.Utf8Tabs 3 4 w') := Lib.hid fun w' h => u8_below hT h hu1 hu2
  have HM : Hid (∀ w', Below w.heap.size w w' → BytesAt w' g 0 (qT m)) := Lib.hid fun w' h => hm.below h hg
  obtain ⟨n, hn⟩ : ∃ n, n = m.length := ⟨_, rfl⟩
  have hc0 := hm 0 (by rw [qT_length]; omega)
  have hc1 := hm (n + 1) (by rw [qT_length]; omega)
  rw [Nat.zero_add] at hc0 hc1
  have hc0' : w.cell? ⟨g, 0, none⟩ = some (.int .u8 34) := hc0
  have hc1' : w.cell? ⟨g, n + 1, none⟩ = some (.int .u8 34) := by rw [hc1, hn, qT_end]
  rw [← hn] at hcap hsz ⊢
  obtain ⟨c1, hcc⟩ : ∃ c1, cap = c1 + 1 := ⟨cap - 1, by omega⟩
  subst hcc
  have hcn : n + 1 ≤ c1 := by omega
  have hn11 : n + 2 - 1 = n + 1 := by omega
  have hn12 : n + 1 - 1 = n := by omega
  have HN := Lib.hid hn
  have hl2 : decide ((n : Int) + 2 < 2) = false := by simp; omega
  have HG := Lib.hid hg
  have HFIN : Hid (∀ out, DInv m n out → dcL m = out) := Lib.hid fun out h => h.fin (by rw [hn])
  have HFU : Hid (UInv m n 0 [] false → dcL m = m) := Lib.hid fun h => by
    have h1 := h
    rw [hn] at h1
    have := h1.fin.1
    simpa using this
  clear hc0 hc1 hm hT hok hn hu1 hu2 hg
  generalize dcL m = Q at *
  go_enter Tryd.func69, Tryd.ntmps69
  go_wp2
  rw [hn11, hn12]
  clear hc0' hc1' hn11 hn12
  go_loopw [4] (fun r wr => ∃ k : Nat, k ≤ n ∧ r = .int .i64 k ∧ Below w.heap.size w wr ∧ Hid (UInv m k 0 [] false)) (fun r _ => n - (intOf r).toNat)
  case atStart => exact ⟨0, Nat.zero_le _, rfl, Below.refl _ _, hst⟩
  case round =>
    clear hst
    obtain ⟨k, hk, rfl, hb, hI⟩ := hrel
    by_cases hkn : k < n
    · have hkm : Hid (k < m.length) := by have := HN.out; show _ < _; omega
      have hpos := UInv.pos hkm.out
      have hqb := q_bytes (HM.out wr hb) k (Nat.le_of_lt hkm.out)
      have hdl : (m.drop k).length = n - k := by rw [List.length_drop, ← HN.out]
      have ck := hqb 0 hpos
      rw [Nat.add_zero, natL_at] at ck
      have hokc := hI.out.okc hkm.out
      have hne : Hid (¬ natL (m.drop k) 0 = 92 → (¬ natL (m.drop k) 0 = 34 ∧ 32 ≤ natL (m.drop k) 0)) := Lib.hid fun q => by
        unfold okPc at hokc
        rw [if_neg q] at hokc
        simpa using hokc
      have hdec := decodeRune (m.drop k) g (1 + k) (c1 - k) wr (HT.out wr hb) hqb hpos
      rw [hdl] at hdec
      obtain ⟨d0, d1⟩ := dec_head2 (m.drop k) hpos
      obtain ⟨c, hc⟩ : ∃ c, c = natL (m.drop k) 0 := ⟨_, rfl⟩
      have hc256 : c < 256 := by rw [hc]; exact natL_lt _ _
      rw [← hc] at ck hne
      have HC := Lib.hid hc
      have HD := Lib.hid hdec
      -- what is copied at first
      have HCP : Hid (∀ W, Below w.heap.size w W → ∃ W3, (Builtin.copy_ #[56, 56] 3 #[.slice (some ⟨W.heap.size, 0, none⟩) (n + 8) (n + 8), .slice (some ⟨g, 1, none⟩) k c1]).run Tryd.prog (W.alloc (.cells (madeCells #[.int .u8 0] (n + 8)) 5)) = .ok (.int .i64 k) W3 ∧ Hid (PBuf W3 W.heap.size (n + 8) (m.take k)) ∧ Below w.heap.size w W3) := Lib.hid fun W hW => by
        have hl : (m.take k).length = k := by rw [List.length_take]; have := hkm.out; omega
        have hq0 := q_bytes (HM.out W hW) 0 (Nat.zero_le _)
        have hb0 : BytesAt W g 1 (m.take k) := fun j hj => by
          rw [hl] at hj
          have := hq0 j (by rw [List.drop_zero, ← HN.out]; omega)
          rw [List.drop_zero, Nat.add_zero] at this
          rw [this, atL_take _ _ _ hj]
        obtain ⟨W3, a, b, d⟩ := mk_copy W (n + 8) g 1 c1 (m.take k) hb0 (Nat.lt_of_lt_of_le HG.out hW.size) (by rw [hl]; omega)
        rw [hl] at a
        exact ⟨W3, a, Lib.hid b, hW.trans (d.mono hW.size)⟩
      have HDI : Hid (DInv m k (m.take k)) := Lib.hid ⟨Nat.le_of_lt hkm.out, by have := hI.out.eq; simpa using this, hI.out.ok⟩
      have hmk : ∀ W, (Instr.makeSlice 56 (.int .i64 ((n : Int) + 8)) (.int .i64 ((n : Int) + 8))).run Tryd.prog W = .ok (.slice (some ⟨W.heap.size, 0, none⟩) (n + 8) (n + 8)) (W.alloc (.cells (madeCells #[.int .u8 0] (n + 8)) 5)) := fun W => by
        have := run_make_row' (P := Tryd.prog) 56 5 (.int .u8 0) 1 Tryd.underlying56 infoU8 rfl .i64 .i64 (n + 8) (by omega) (by omega) W
        rw [show ((n + 8 : Nat) : Int) = (n : Int) + 8 by omega] at this
        exact this
      have hkn1 : ((k : Int) == (n : Int)) = false := by simp; omega
      clear hdec hqb hdl hpos hc hokc
      by_cases h92 : c = 92
      · subst h92
        obtain ⟨W3, hcp, hP, hbel⟩ := HCP.out wr hb
        have ck' : wr.cell? ⟨g, 1 + k, none⟩ = some (.int .u8 92) := ck
        clear HCP hne d0 d1 HD ck
        have HTK : Hid ((m.take k).length = k) := Lib.hid (by rw [List.length_take]; have := hkm.out; omega)
        have HSZ : Hid (w.heap.size ≤ wr.heap.size) := Lib.hid hb.size
        go_wp2
        clear hcp hkn
        go_loopw [4, 8, 9] (fun r b y wr => ∃ (k gb L : Nat) (out : List UInt8), k ≤ n ∧ r = .int .i64 k ∧ b = .slice (some ⟨gb, 0, none⟩) L L ∧ y = .int .i64 out.length ∧ w.heap.size ≤ gb ∧ 8 ≤ L ∧ L ≤ 8 * n + 24 ∧ Hid (PBuf wr gb L out) ∧ Below w.heap.size w wr ∧ Hid (DInv m k out)) (fun r _ _ _ => n - (intOf r).toNat)
        case atStart => exact ⟨k, _, n + 8, m.take k, hk, rfl, rfl, by rw [HTK.out], HSZ.out, by omega, by omega, hP, hbel, HDI⟩
        case round =>
          clear hP hbel HDI HTK HSZ
          obtain ⟨k, gb, L, out, hk, rfl, rfl, rfl, hgb, hL8, hLn, hP, hbel, hI⟩ := hrel
          by_cases hkn : k < n
          · have hkm : Hid (k < m.length) := by have := HN.out; show _ < _; omega
            have hol : out.length ≤ 4 * n := by have := hI.out.bound; have := HN.out; omega
            have hll : out.length ≤ L := hP.out.le
            go_upto_if 96 with fail
            go_cut [8] (fun b wx => ∃ (gb' L' : Nat), b = .slice (some ⟨gb', 0, none⟩) L' L' ∧ w.heap.size ≤ gb' ∧ out.length + 8 ≤ L' ∧ L' ≤ 8 * n + 24 ∧ Hid (PBuf wx gb' L' out) ∧ Below w.heap.size w wx)
            case first =>
              by_cases hgr : (L : Int) - 8 ≤ (out.length : Int)
              · have hmk2 : (Instr.makeSlice 56 (.int .i64 (((L : Int) + 4) * 2)) (.int .i64 (((L : Int) + 4) * 2))).run Tryd.prog wr = .ok (.slice (some ⟨wr.heap.size, 0, none⟩) ((L + 4) * 2) ((L + 4) * 2)) (wr.alloc (.cells (madeCells #[.int .u8 0] ((L + 4) * 2)) 5)) := by
                  have := run_make_row' (P := Tryd.prog) 56 5 (.int .u8 0) 1 Tryd.underlying56 infoU8 rfl .i64 .i64 ((L + 4) * 2) (by omega) (by omega) wr
                  rw [show (((L + 4) * 2 : Nat) : Int) = ((L : Int) + 4) * 2 by omega] at this
                  exact this
                obtain ⟨W3, hcp, hP3, hbel3⟩ := mk_copy wr ((L + 4) * 2) gb 0 L out hP.out.by' hP.out.lt (by omega)
                have HP3 := Lib.hid hP3
                have HB3 := Lib.hid (hbel.trans (hbel3.mono hbel.size))
                have hgb3 : w.heap.size ≤ wr.heap.size := hbel.size
                have hL3 : 8 ≤ (L + 4) * 2 ∧ (L + 4) * 2 ≤ 8 * n + 24 ∧ out.length + 8 ≤ (L + 4) * 2 := by omega
                clear hP3 hbel3 hP hbel
                go_wp2
                go_meet
                exact ⟨_, _, rfl, hgb3, hL3.2.2, hL3.2.1, HP3, HB3.out⟩
              · have hgr' : (out.length : Int) < (L : Int) - 8 := by omega
                go_wp2
                go_meet
                exact ⟨gb, L, rfl, hgb, by omega, hLn, hP, hbel⟩
            case rest =>
              clear hP hbel hL8 hLn hgb hll
              obtain ⟨gb2, L2, rfl, hgb, hLo, hLn, hP, hbel⟩ := hcut
              have hpos := UInv.pos hkm.out
              have hqb := q_bytes (HM.out wc hbel) k (Nat.le_of_lt hkm.out)
              have ck := hqb 0 hpos
              rw [Nat.add_zero, natL_at] at ck
              obtain ⟨c, hc⟩ : ∃ c, c = natL (m.drop k) 0 := ⟨_, rfl⟩
              have hc256 : c < 256 := by rw [hc]; exact natL_lt _ _
              rw [← hc] at ck
              have HC := Lib.hid hc
              have HQB := Lib.hid hqb
              have HT2 := Lib.hid (HT.out wc hbel)
              clear hc hqb hpos
              go_upto_block 4 with fail
              refine wp_self (ouAll w g c1 gb2 L2 n k m out c wc HN hkn hcn hsz hgb hLo hLn hP hbel hI HQB HC hc256 HT2 ?_)
              intro a' w'' hinv
              obtain ⟨u4, hinv⟩ := hinv
              obtain ⟨u9, hinv⟩ := hinv
              obtain ⟨u12, hinv⟩ := hinv
              obtain ⟨u13, hinv⟩ := hinv
              obtain ⟨u14, hinv⟩ := hinv
              obtain ⟨u15, hinv⟩ := hinv
              obtain ⟨u16, hinv⟩ := hinv
              obtain ⟨u112, hinv⟩ := hinv
              obtain ⟨u113, hinv⟩ := hinv
              obtain ⟨u114, hinv⟩ := hinv
              obtain ⟨u115, hinv⟩ := hinv
              obtain ⟨u116, hinv⟩ := hinv
              obtain ⟨u117, hinv⟩ := hinv
              obtain ⟨u118, hinv⟩ := hinv
              obtain ⟨u119, hinv⟩ := hinv
              obtain ⟨u120, hinv⟩ := hinv
              obtain ⟨u121, hinv⟩ := hinv
              obtain ⟨u122, hinv⟩ := hinv
              obtain ⟨u123, hinv⟩ := hinv
              obtain ⟨u124, hinv⟩ := hinv
              obtain ⟨u125, hinv⟩ := hinv
              obtain ⟨u126, hinv⟩ := hinv
              obtain ⟨u127, hinv⟩ := hinv
              obtain ⟨u128, hinv⟩ := hinv
              obtain ⟨u129, hinv⟩ := hinv
              obtain ⟨u130, hinv⟩ := hinv
              obtain ⟨u131, hinv⟩ := hinv
              obtain ⟨u132, hinv⟩ := hinv
              obtain ⟨u133, hinv⟩ := hinv
              obtain ⟨u134, hinv⟩ := hinv
              obtain ⟨u135, hinv⟩ := hinv
              obtain ⟨u136, hinv⟩ := hinv
              obtain ⟨u137, hinv⟩ := hinv
              obtain ⟨u138, hinv⟩ := hinv
              obtain ⟨u139, hinv⟩ := hinv
              obtain ⟨u140, hinv⟩ := hinv
              obtain ⟨u141, hinv⟩ := hinv
              obtain ⟨u142, hinv⟩ := hinv
              obtain ⟨u143, hinv⟩ := hinv
              obtain ⟨u144, hinv⟩ := hinv
              obtain ⟨u145, hinv⟩ := hinv
              obtain ⟨u146, hinv⟩ := hinv
              obtain ⟨u147, hinv⟩ := hinv
              obtain ⟨u148, hinv⟩ := hinv
              obtain ⟨u149, hinv⟩ := hinv
              obtain ⟨u150, hinv⟩ := hinv
              obtain ⟨u151, hinv⟩ := hinv
              obtain ⟨u152, hinv⟩ := hinv
              obtain ⟨u153, hinv⟩ := hinv
              obtain ⟨u154, hinv⟩ := hinv
              obtain ⟨u155, hinv⟩ := hinv
              obtain ⟨u156, hinv⟩ := hinv
              obtain ⟨u157, hinv⟩ := hinv
              obtain ⟨u158, hinv⟩ := hinv
              obtain ⟨u159, hinv⟩ := hinv
              obtain ⟨u160, hinv⟩ := hinv
              obtain ⟨u161, hinv⟩ := hinv
              obtain ⟨u162, hinv⟩ := hinv
              obtain ⟨u163, hinv⟩ := hinv
              obtain ⟨u164, hinv⟩ := hinv
              obtain ⟨u165, hinv⟩ := hinv
              obtain ⟨u166, hinv⟩ := hinv
              obtain ⟨u167, hinv⟩ := hinv
              obtain ⟨u168, hinv⟩ := hinv
              obtain ⟨u169, hinv⟩ := hinv
              obtain ⟨u170, hinv⟩ := hinv
              obtain ⟨u171, hinv⟩ := hinv
              obtain ⟨u172, hinv⟩ := hinv
              obtain ⟨u173, hinv⟩ := hinv
              obtain ⟨u174, hinv⟩ := hinv
              obtain ⟨u175, hinv⟩ := hinv
              obtain ⟨u176, hinv⟩ := hinv
              obtain ⟨u177, hinv⟩ := hinv
              obtain ⟨u178, hinv⟩ := hinv
              obtain ⟨u179, hinv⟩ := hinv
              obtain ⟨u180, hinv⟩ := hinv
              obtain ⟨u181, hinv⟩ := hinv
              obtain ⟨u182, hinv⟩ := hinv
              obtain ⟨u183, hinv⟩ := hinv
              obtain ⟨u184, hinv⟩ := hinv
              obtain ⟨u185, hinv⟩ := hinv
              obtain ⟨u186, hinv⟩ := hinv
              obtain ⟨u187, hinv⟩ := hinv
              obtain ⟨u188, hinv⟩ := hinv
              obtain ⟨u189, hinv⟩ := hinv
              obtain ⟨u190, hinv⟩ := hinv
              obtain ⟨u191, hinv⟩ := hinv
              obtain ⟨u192, hinv⟩ := hinv
              obtain ⟨u193, hinv⟩ := hinv
              obtain ⟨u194, hinv⟩ := hinv
              obtain ⟨u195, hinv⟩ := hinv
              obtain ⟨u196, hinv⟩ := hinv
              obtain ⟨u197, hinv⟩ := hinv
              obtain ⟨u198, hinv⟩ := hinv
              obtain ⟨u199, hinv⟩ := hinv
              obtain ⟨u200, hinv⟩ := hinv
              obtain ⟨u201, hinv⟩ := hinv
              obtain ⟨u202, hinv⟩ := hinv
              obtain ⟨u203, hinv⟩ := hinv
              obtain ⟨u204, hinv⟩ := hinv
              obtain ⟨u205, hinv⟩ := hinv
              obtain ⟨u206, hinv⟩ := hinv
              obtain ⟨u207, hinv⟩ := hinv
              obtain ⟨u208, hinv⟩ := hinv
              obtain ⟨u209, hinv⟩ := hinv
              obtain ⟨u210, hinv⟩ := hinv
              obtain ⟨u211, hinv⟩ := hinv
              obtain ⟨u212, hinv⟩ := hinv
              obtain ⟨u213, hinv⟩ := hinv
              obtain ⟨u214, hinv⟩ := hinv
              obtain ⟨u215, hinv⟩ := hinv
              obtain ⟨u216, hinv⟩ := hinv
              obtain ⟨u217, hinv⟩ := hinv
              obtain ⟨u218, hinv⟩ := hinv
              obtain ⟨u219, hinv⟩ := hinv
              obtain ⟨u220, hinv⟩ := hinv
              obtain ⟨u221, hinv⟩ := hinv
              obtain ⟨u222, hinv⟩ := hinv
              obtain ⟨u223, hinv⟩ := hinv
              obtain ⟨u224, hinv⟩ := hinv
              obtain ⟨u225, hinv⟩ := hinv
              obtain ⟨u226, hinv⟩ := hinv
              obtain ⟨u227, hinv⟩ := hinv
              obtain ⟨u228, hinv⟩ := hinv
              obtain ⟨u229, hinv⟩ := hinv
              obtain ⟨u230, hinv⟩ := hinv
              obtain ⟨u231, hinv⟩ := hinv
              obtain ⟨u232, hinv⟩ := hinv
              obtain ⟨u233, hinv⟩ := hinv
              obtain ⟨u234, hinv⟩ := hinv
              obtain ⟨u235, hinv⟩ := hinv
              obtain ⟨u236, hinv⟩ := hinv
              obtain ⟨u237, hinv⟩ := hinv
              obtain ⟨u238, hinv⟩ := hinv
              obtain ⟨u239, hinv⟩ := hinv
              obtain ⟨u240, hinv⟩ := hinv
              obtain ⟨u241, hinv⟩ := hinv
              obtain ⟨u242, hinv⟩ := hinv
              obtain ⟨u243, hinv⟩ := hinv
              obtain ⟨u244, hinv⟩ := hinv
              obtain ⟨u245, hinv⟩ := hinv
              obtain ⟨u246, hinv⟩ := hinv
              obtain ⟨u247, hinv⟩ := hinv
              obtain ⟨u248, hinv⟩ := hinv
              obtain ⟨u249, hinv⟩ := hinv
              obtain ⟨u250, hinv⟩ := hinv
              obtain ⟨u251, hinv⟩ := hinv
              obtain ⟨u252, hinv⟩ := hinv
              obtain ⟨u253, hinv⟩ := hinv
              obtain ⟨u254, hinv⟩ := hinv
              obtain ⟨u255, hinv⟩ := hinv
              obtain ⟨u256, hinv⟩ := hinv
              obtain ⟨u257, hinv⟩ := hinv
              obtain ⟨⟨k2, out2, hk2, hlt, rfl, rfl, hP2, hb2, hI2⟩, ha⟩ := hinv
              subst ha
              clear hP hbel hI HC HQB HT2 ck
              try dsimp only
              go_wp2
              refine ⟨⟨k2, gb2, L2, out2, hk2, rfl, rfl, rfl, hgb, by omega, hLn, hP2, hb2, hI2⟩, ?_⟩
              simp [intOf]; omega
          · obtain rfl : k = n := by omega
            have hQ := HFIN.out out hI.out
            have hfin : Hid (UnqB Q w (.returned (.tuple #[.slice (some ⟨gb, 0, none⟩) out.length L, .bool true])) wr) := Lib.hid (by
              rw [hQ]
              exact ⟨gb, 0, L, rfl, hP.out.by', hP.out.lt, hbel⟩)
            have hll : out.length ≤ L := hP.out.le
            clear hQ hkn hP hI hbel
            go_wp2
            go_ret2
            exact hfin.out
      · have hq := hne.out h92
        have e1 : ((c : Int) == 92) = false := by simp; omega
        have e2 : ((c : Int) == 34) = false := by simp; omega
        have e3 : decide ((c : Int) < 32) = false := by simp; omega
        by_cases hz : rlL (m.drop k) = 0
        · have HD2 := HD.out
          rw [d0 hz] at HD2
          have hdec' : Calls Tryd.prog 83 #[.slice (some ⟨g, 1 + k, none⟩) (n - k) (c1 - k)] wr fun e w' => e = .returned (.tuple #[.int .i32 65533, .int .i64 1]) ∧ Below wr.heap.size wr w' := HD2
          have HD3 := Lib.hid hdec'
          clear HD HD2 hdec' d0 d1 hz hne
          go_wp2_with fail
          refine HD3.out.mono ?_
          rintro e wd ⟨rfl, hbd⟩
          have hb2 := hb.trans (hbd.mono hb.size)
          obtain ⟨W3, hcp, hP, hbel⟩ := HCP.out wd hb2
          clear HCP HD3 hbd hb
          have HTK : Hid ((m.take k).length = k) := Lib.hid (by rw [List.length_take]; have := hkm.out; omega)
          have HSZ : Hid (w.heap.size ≤ wd.heap.size) := Lib.hid hb2.size
          go_wp2
          clear hcp hkn
          go_loopw [4, 8, 9] (fun r b y wr => ∃ (k gb L : Nat) (out : List UInt8), k ≤ n ∧ r = .int .i64 k ∧ b = .slice (some ⟨gb, 0, none⟩) L L ∧ y = .int .i64 out.length ∧ w.heap.size ≤ gb ∧ 8 ≤ L ∧ L ≤ 8 * n + 24 ∧ Hid (PBuf wr gb L out) ∧ Below w.heap.size w wr ∧ Hid (DInv m k out)) (fun r _ _ _ => n - (intOf r).toNat)
          case atStart => exact ⟨k, _, n + 8, m.take k, hk, rfl, rfl, by rw [HTK.out], HSZ.out, by omega, by omega, hP, hbel, HDI⟩
          case round =>
            clear hP hbel HDI HTK HSZ
            obtain ⟨k, gb, L, out, hk, rfl, rfl, rfl, hgb, hL8, hLn, hP, hbel, hI⟩ := hrel
            by_cases hkn : k < n
            · have hkm : Hid (k < m.length) := by have := HN.out; show _ < _; omega
              have hol : out.length ≤ 4 * n := by have := hI.out.bound; have := HN.out; omega
              have hll : out.length ≤ L := hP.out.le
              go_upto_if 96 with fail
              go_cut [8] (fun b wx => ∃ (gb' L' : Nat), b = .slice (some ⟨gb', 0, none⟩) L' L' ∧ w.heap.size ≤ gb' ∧ out.length + 8 ≤ L' ∧ L' ≤ 8 * n + 24 ∧ Hid (PBuf wx gb' L' out) ∧ Below w.heap.size w wx)
              case first =>
                by_cases hgr : (L : Int) - 8 ≤ (out.length : Int)
                · have hmk2 : (Instr.makeSlice 56 (.int .i64 (((L : Int) + 4) * 2)) (.int .i64 (((L : Int) + 4) * 2))).run Tryd.prog wr = .ok (.slice (some ⟨wr.heap.size, 0, none⟩) ((L + 4) * 2) ((L + 4) * 2)) (wr.alloc (.cells (madeCells #[.int .u8 0] ((L + 4) * 2)) 5)) := by
                    have := run_make_row' (P := Tryd.prog) 56 5 (.int .u8 0) 1 Tryd.underlying56 infoU8 rfl .i64 .i64 ((L + 4) * 2) (by omega) (by omega) wr
                    rw [show (((L + 4) * 2 : Nat) : Int) = ((L : Int) + 4) * 2 by omega] at this
                    exact this
                  obtain ⟨W3, hcp, hP3, hbel3⟩ := mk_copy wr ((L + 4) * 2) gb 0 L out hP.out.by' hP.out.lt (by omega)
                  have HP3 := Lib.hid hP3
                  have HB3 := Lib.hid (hbel.trans (hbel3.mono hbel.size))
                  have hgb3 : w.heap.size ≤ wr.heap.size := hbel.size
                  have hL3 : 8 ≤ (L + 4) * 2 ∧ (L + 4) * 2 ≤ 8 * n + 24 ∧ out.length + 8 ≤ (L + 4) * 2 := by omega
                  clear hP3 hbel3 hP hbel
                  go_wp2
                  go_meet
                  exact ⟨_, _, rfl, hgb3, hL3.2.2, hL3.2.1, HP3, HB3.out⟩
                · have hgr' : (out.length : Int) < (L : Int) - 8 := by omega
                  go_wp2
                  go_meet
                  exact ⟨gb, L, rfl, hgb, by omega, hLn, hP, hbel⟩
              case rest =>
                clear hP hbel hL8 hLn hgb hll
                obtain ⟨gb2, L2, rfl, hgb, hLo, hLn, hP, hbel⟩ := hcut
                have hpos := UInv.pos hkm.out
                have hqb := q_bytes (HM.out wc hbel) k (Nat.le_of_lt hkm.out)
                have ck := hqb 0 hpos
                rw [Nat.add_zero, natL_at] at ck
                obtain ⟨c, hc⟩ : ∃ c, c = natL (m.drop k) 0 := ⟨_, rfl⟩
                have hc256 : c < 256 := by rw [hc]; exact natL_lt _ _
                rw [← hc] at ck
                have HC := Lib.hid hc
                have HQB := Lib.hid hqb
                have HT2 := Lib.hid (HT.out wc hbel)
                clear hc hqb hpos
                go_upto_block 4 with fail
                refine wp_self (ouAll w g c1 gb2 L2 n k m out c wc HN hkn hcn hsz hgb hLo hLn hP hbel hI HQB HC hc256 HT2 ?_)
                intro a' w'' hinv
                obtain ⟨u4, hinv⟩ := hinv
                obtain ⟨u9, hinv⟩ := hinv
                obtain ⟨u12, hinv⟩ := hinv
                obtain ⟨u13, hinv⟩ := hinv
                obtain ⟨u14, hinv⟩ := hinv
                obtain ⟨u15, hinv⟩ := hinv
                obtain ⟨u16, hinv⟩ := hinv
                obtain ⟨u112, hinv⟩ := hinv
                obtain ⟨u113, hinv⟩ := hinv
                obtain ⟨u114, hinv⟩ := hinv
                obtain ⟨u115, hinv⟩ := hinv
                obtain ⟨u116, hinv⟩ := hinv
                obtain ⟨u117, hinv⟩ := hinv
                obtain ⟨u118, hinv⟩ := hinv
                obtain ⟨u119, hinv⟩ := hinv
                obtain ⟨u120, hinv⟩ := hinv
                obtain ⟨u121, hinv⟩ := hinv
                obtain ⟨u122, hinv⟩ := hinv
                obtain ⟨u123, hinv⟩ := hinv
                obtain ⟨u124, hinv⟩ := hinv
                obtain ⟨u125, hinv⟩ := hinv
                obtain ⟨u126, hinv⟩ := hinv
                obtain ⟨u127, hinv⟩ := hinv
                obtain ⟨u128, hinv⟩ := hinv
                obtain ⟨u129, hinv⟩ := hinv
                obtain ⟨u130, hinv⟩ := hinv
                obtain ⟨u131, hinv⟩ := hinv
                obtain ⟨u132, hinv⟩ := hinv
                obtain ⟨u133, hinv⟩ := hinv
                obtain ⟨u134, hinv⟩ := hinv
                obtain ⟨u135, hinv⟩ := hinv
                obtain ⟨u136, hinv⟩ := hinv
                obtain ⟨u137, hinv⟩ := hinv
                obtain ⟨u138, hinv⟩ := hinv
                obtain ⟨u139, hinv⟩ := hinv
                obtain ⟨u140, hinv⟩ := hinv
                obtain ⟨u141, hinv⟩ := hinv
                obtain ⟨u142, hinv⟩ := hinv
                obtain ⟨u143, hinv⟩ := hinv
                obtain ⟨u144, hinv⟩ := hinv
                obtain ⟨u145, hinv⟩ := hinv
                obtain ⟨u146, hinv⟩ := hinv
                obtain ⟨u147, hinv⟩ := hinv
                obtain ⟨u148, hinv⟩ := hinv
                obtain ⟨u149, hinv⟩ := hinv
                obtain ⟨u150, hinv⟩ := hinv
                obtain ⟨u151, hinv⟩ := hinv
                obtain ⟨u152, hinv⟩ := hinv
                obtain ⟨u153, hinv⟩ := hinv
                obtain ⟨u154, hinv⟩ := hinv
                obtain ⟨u155, hinv⟩ := hinv
                obtain ⟨u156, hinv⟩ := hinv
                obtain ⟨u157, hinv⟩ := hinv
                obtain ⟨u158, hinv⟩ := hinv
                obtain ⟨u159, hinv⟩ := hinv
                obtain ⟨u160, hinv⟩ := hinv
                obtain ⟨u161, hinv⟩ := hinv
                obtain ⟨u162, hinv⟩ := hinv
                obtain ⟨u163, hinv⟩ := hinv
                obtain ⟨u164, hinv⟩ := hinv
                obtain ⟨u165, hinv⟩ := hinv
                obtain ⟨u166, hinv⟩ := hinv
                obtain ⟨u167, hinv⟩ := hinv
                obtain ⟨u168, hinv⟩ := hinv
                obtain ⟨u169, hinv⟩ := hinv
                obtain ⟨u170, hinv⟩ := hinv
                obtain ⟨u171, hinv⟩ := hinv
                obtain ⟨u172, hinv⟩ := hinv
                obtain ⟨u173, hinv⟩ := hinv
                obtain ⟨u174, hinv⟩ := hinv
                obtain ⟨u175, hinv⟩ := hinv
                obtain ⟨u176, hinv⟩ := hinv
                obtain ⟨u177, hinv⟩ := hinv
                obtain ⟨u178, hinv⟩ := hinv
                obtain ⟨u179, hinv⟩ := hinv
                obtain ⟨u180, hinv⟩ := hinv
                obtain ⟨u181, hinv⟩ := hinv
                obtain ⟨u182, hinv⟩ := hinv
                obtain ⟨u183, hinv⟩ := hinv
                obtain ⟨u184, hinv⟩ := hinv
                obtain ⟨u185, hinv⟩ := hinv
                obtain ⟨u186, hinv⟩ := hinv
                obtain ⟨u187, hinv⟩ := hinv
                obtain ⟨u188, hinv⟩ := hinv
                obtain ⟨u189, hinv⟩ := hinv
                obtain ⟨u190, hinv⟩ := hinv
                obtain ⟨u191, hinv⟩ := hinv
                obtain ⟨u192, hinv⟩ := hinv
                obtain ⟨u193, hinv⟩ := hinv
                obtain ⟨u194, hinv⟩ := hinv
                obtain ⟨u195, hinv⟩ := hinv
                obtain ⟨u196, hinv⟩ := hinv
                obtain ⟨u197, hinv⟩ := hinv
                obtain ⟨u198, hinv⟩ := hinv
                obtain ⟨u199, hinv⟩ := hinv
                obtain ⟨u200, hinv⟩ := hinv
                obtain ⟨u201, hinv⟩ := hinv
                obtain ⟨u202, hinv⟩ := hinv
                obtain ⟨u203, hinv⟩ := hinv
                obtain ⟨u204, hinv⟩ := hinv
                obtain ⟨u205, hinv⟩ := hinv
                obtain ⟨u206, hinv⟩ := hinv
                obtain ⟨u207, hinv⟩ := hinv
                obtain ⟨u208, hinv⟩ := hinv
                obtain ⟨u209, hinv⟩ := hinv
                obtain ⟨u210, hinv⟩ := hinv
                obtain ⟨u211, hinv⟩ := hinv
                obtain ⟨u212, hinv⟩ := hinv
                obtain ⟨u213, hinv⟩ := hinv
                obtain ⟨u214, hinv⟩ := hinv
                obtain ⟨u215, hinv⟩ := hinv
                obtain ⟨u216, hinv⟩ := hinv
                obtain ⟨u217, hinv⟩ := hinv
                obtain ⟨u218, hinv⟩ := hinv
                obtain ⟨u219, hinv⟩ := hinv
                obtain ⟨u220, hinv⟩ := hinv
                obtain ⟨u221, hinv⟩ := hinv
                obtain ⟨u222, hinv⟩ := hinv
                obtain ⟨u223, hinv⟩ := hinv
                obtain ⟨u224, hinv⟩ := hinv
                obtain ⟨u225, hinv⟩ := hinv
                obtain ⟨u226, hinv⟩ := hinv
                obtain ⟨u227, hinv⟩ := hinv
                obtain ⟨u228, hinv⟩ := hinv
                obtain ⟨u229, hinv⟩ := hinv
                obtain ⟨u230, hinv⟩ := hinv
                obtain ⟨u231, hinv⟩ := hinv
                obtain ⟨u232, hinv⟩ := hinv
                obtain ⟨u233, hinv⟩ := hinv
                obtain ⟨u234, hinv⟩ := hinv
                obtain ⟨u235, hinv⟩ := hinv
                obtain ⟨u236, hinv⟩ := hinv
                obtain ⟨u237, hinv⟩ := hinv
                obtain ⟨u238, hinv⟩ := hinv
                obtain ⟨u239, hinv⟩ := hinv
                obtain ⟨u240, hinv⟩ := hinv
                obtain ⟨u241, hinv⟩ := hinv
                obtain ⟨u242, hinv⟩ := hinv
                obtain ⟨u243, hinv⟩ := hinv
                obtain ⟨u244, hinv⟩ := hinv
                obtain ⟨u245, hinv⟩ := hinv
                obtain ⟨u246, hinv⟩ := hinv
                obtain ⟨u247, hinv⟩ := hinv
                obtain ⟨u248, hinv⟩ := hinv
                obtain ⟨u249, hinv⟩ := hinv
                obtain ⟨u250, hinv⟩ := hinv
                obtain ⟨u251, hinv⟩ := hinv
                obtain ⟨u252, hinv⟩ := hinv
                obtain ⟨u253, hinv⟩ := hinv
                obtain ⟨u254, hinv⟩ := hinv
                obtain ⟨u255, hinv⟩ := hinv
                obtain ⟨u256, hinv⟩ := hinv
                obtain ⟨u257, hinv⟩ := hinv
                obtain ⟨⟨k2, out2, hk2, hlt, rfl, rfl, hP2, hb2, hI2⟩, ha⟩ := hinv
                subst ha
                clear hP hbel hI HC HQB HT2 ck
                try dsimp only
                go_wp2
                refine ⟨⟨k2, gb2, L2, out2, hk2, rfl, rfl, rfl, hgb, by omega, hLn, hP2, hb2, hI2⟩, ?_⟩
                simp [intOf]; omega
            · obtain rfl : k = n := by omega
              have hQ := HFIN.out out hI.out
              have hfin : Hid (UnqB Q w (.returned (.tuple #[.slice (some ⟨gb, 0, none⟩) out.length L, .bool true])) wr) := Lib.hid (by
                rw [hQ]
                exact ⟨gb, 0, L, rfl, hP.out.by', hP.out.lt, hbel⟩)
              have hll : out.length ≤ L := hP.out.le
              clear hQ hkn hP hI hbel
              go_wp2
              go_ret2
              exact hfin.out
        · obtain ⟨r, hr⟩ : ∃ r, r = (decN (m.drop k)).1 := ⟨_, rfl⟩
          obtain ⟨wd, hwd⟩ : ∃ x, x = decW (m.drop k) := ⟨_, rfl⟩
          obtain ⟨q1, q2⟩ := d1 hz
          have hbad : ¬ (r = 65533 ∧ wd = 1) := by rw [hr, hwd]; exact q2
          have HD2 := HD.out
          rw [q1, ← hr, ← hwd] at HD2
          have HD3 := Lib.hid HD2
          have hcn92 : ¬ natL (m.drop k) 0 = 92 := by rw [← HC.out]; exact h92
          have eC : dcC (m.drop k) = (m.drop k).take wd := by unfold dcC mendC; rw [if_neg hcn92, if_neg hz, hwd]
          have eW : dcW (m.drop k) = wd := by unfold dcW; rw [if_neg hcn92, hwd]
          have HI : Hid (UInv m (k + wd) 0 [] false) := Lib.hid (hI.out.raw hkm.out wd eW eC)
          have hwl := hI.out.wle hkm.out
          rw [eW, ← HN.out] at hwl
          have hw1 : 1 ≤ wd := by rw [hwd]; exact (decW_range _ (UInv.pos hkm.out)).1
          clear HD HD2 d0 d1 hz hne q1 q2 eC eW hcn92 hwd hr HCP HDI hmk
          go_wp2_with fail
          refine HD3.out.mono ?_
          rintro e w2 ⟨rfl, hbd⟩
          have hb2 := hb.trans (hbd.mono hb.size)
          clear HD3 hbd hb
          by_cases t1 : r = 65533
          · subst t1
            have t2 : ¬ wd = 1 := fun q => hbad ⟨rfl, q⟩
            have t2' : ((wd : Int) == 1) = false := by simp; omega
            have t3 : (((65533 : Nat) : Int) == 65533) = true := rfl
            clear hbad
            go_wp2
            refine ⟨⟨k + wd, by omega, by go_num, hb2, HI⟩, ?_⟩
            simp [intOf]; omega
          · have t2' : ((r : Int) == 65533) = false := by simp; omega
            clear hbad
            go_wp2
            refine ⟨⟨k + wd, by omega, by go_num, hb2, HI⟩, ?_⟩
            simp [intOf]; omega
    · obtain rfl : k = n := by omega
      have hQ := HFU.out hI.out
      have hqb := q_bytes (HM.out wr hb) 0 (Nat.zero_le _)
      rw [List.drop_zero, Nat.add_zero] at hqb
      have hfin : Hid (UnqB Q w (.returned (.tuple #[.slice (some ⟨g, 1, none⟩) k c1, .bool true])) wr) := Lib.hid (by
        rw [hQ]
        exact ⟨g, 1, c1, by rw [← HN.out], hqb, Nat.lt_of_lt_of_le HG.out hb.size, hb⟩)
      clear hqb hQ hkn
      go_wp2
      go_ret2
      exact hfin.out
end Go.Proofs.YtklncgmfbflooaaDoor
