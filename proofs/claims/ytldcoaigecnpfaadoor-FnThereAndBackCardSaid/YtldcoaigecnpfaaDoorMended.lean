/- The reference's Width and Mended, walked. -/
import Derived.Test.YtldcoaigecnpfaaDoorWidth
import Derived.Test.YtldcoaigecnpfaaDoorQInv
import Derived.Lib.Strings
import Derived.Lib.IndexBytes
import Derived.Outline
namespace Go.Proofs.YtldcoaigecnpfaaDoor
open Go.RowKit
theorem mendC_length (l : List UInt8) (hl : 0 < l.length) : (mendC l).length ≤ 3 * decW l := by
  have hw := decW_range l hl
  unfold mendC
  split
  · show 3 ≤ _; omega
  · rw [List.length_take]; omega
def StrBool (L : List UInt8) (b : Bool) (w : World) (e : Ending) (w' : World) : Prop := e = .returned (.tuple #[.string ⟨L.toArray⟩, .bool b]) ∧ Below w.heap.size w w'
set_option maxRecDepth 100000 in
set_option maxHeartbeats 4000000 in
theorem mended (s : ByteArray) (w : World) (hs : s.size ≤ 2147483647) :
    Calls Tryd.prog 17 #[.string s] w (StrBool (mendL s.data.toList) (cleanL s.data.toList) w) := by
  obtain ⟨m, hm⟩ : ∃ m, m = s.data.toList := ⟨_, rfl⟩
  have hml : m.length = s.size := by rw [hm, size_list]
  have hwd := fun (k : Nat) (h : k < s.size) W => width s k W (by omega) h
  rw [← hm] at hwd ⊢
  obtain ⟨Q, hQ⟩ : ∃ Q, Q = mendL m := ⟨_, rfl⟩
  obtain ⟨clean, hcl⟩ : ∃ c, c = cleanL m := ⟨_, rfl⟩
  have hlenQ := runF_length mendC 3 (fun l hl => mendC_length l hl) m.length m (Nat.le_refl _)
  have hbq : Hid (∀ (k i : Nat) (out : List UInt8), QInv mendC m k i out → out.length + (k - i) ≤ 3 * s.size) := fun k i out q => by
    have h1 := q.bound
    rw [hml] at hlenQ
    omega
  rw [← hQ, ← hcl]
  have HWD := Lib.hid hwd
  have HM := Lib.hid hm
  have HML := Lib.hid hml
  have HQ := Lib.hid hQ
  have HCL := Lib.hid hcl
  have hs0 : Hid (QInv mendC m 0 0 []) := QInv.start mendC m
  have hs1 : Hid (CInv m 0 false) := CInv.start m
  clear hwd hm hml hQ hcl hlenQ
  go_enter Tryd.func17, Tryd.ntmps17
  go_wp2
  go_loopw [4, 5, 6] (fun b cl i wr => ∃ (k : Nat) (bad : Bool) (out : List UInt8), k ≤ s.size ∧ i = .int .i64 k ∧ cl = .bool (!bad) ∧ Buf wr w.heap.size none b out ∧ Fr w.heap.size none w wr ∧ Hid (QInv mendC m k k out) ∧ Hid (CInv m k bad)) (fun _ _ i _ => s.size - (intOf i).toNat)
  case atStart => exact ⟨0, false, [], Nat.zero_le _, rfl, rfl, Buf.empty w, Fr.of_below ((Below.refl _ _).alloc (Nat.le_refl _) _) (by intro g o h; cases h), hs0, hs1⟩
  case round =>
    clear hs0 hs1
    obtain ⟨k, bad, out, hk, rfl, rfl, hb, hf, hI, hC⟩ := hrel
    by_cases hkn : k < s.size
    · have hkm : Hid (k < m.length) := by have := HML.out; show _ < _; omega
      have hpos := drop_pos hkm.out
      have hdr := decW_range _ hpos
      rw [List.length_drop, HML.out] at hdr
      have hlen : Hid (out.length ≤ 3 * s.size) := by have := hbq.out _ _ _ hI.out; show _ ≤ _; omega
      have hwr := HWD.out k hkn wr
      by_cases h0 : rlL (m.drop k) = 0
      · have e0 : widL (m.drop k) = 0 := (widL_zero _ hpos).2 h0
        rw [e0] at hwr
        have hp : mendC (m.drop k) = BR := by unfold mendC; rw [if_pos h0]
        have hd1 : decW (m.drop k) = 1 := by unfold decW; rw [if_pos h0]
        have HI : Hid (QInv mendC m (k + 1) (k + 1) (out ++ BR)) := by
          have := hI.out.esc hkm.out 1 BR hd1 hp
          rw [Nat.sub_self, List.take_zero, List.append_nil] at this
          exact this
        have HC : Hid (CInv m (k + 1) true) := hC.out.bad hkm.out h0
        have HWR := Lib.hid hwr
        clear hwr e0 hp hd1 h0 hpos hdr
        go_wp2_with fail
        refine HWR.out.mono ?_
        rintro e w1 ⟨rfl, hb1⟩
        have hbw : Buf w1 w.heap.size none u4 out := hb.belowA hb1
        have hfw : Fr w.heap.size none w w1 := hf.trans (Fr.of_belowA hb1 hf.size (by intro g o h; cases h))
        clear hb1 HWR
        go_wp2_with (at_builtin; refine wpList_append_buf rfl (.tmp 18) (.const (.string ⟨#[239, 191, 189]⟩)) 9 rfl w.heap.size none u4 out rfl hbw _ BR rfl (Src.text ⟨#[239, 191, 189]⟩) ?c1 hfw.size (by intro g o h; cases h) ?_)
        case c1 => have h2 := hlen.out; simp [BR]; omega
        intro v2 w2 hb2 hg2 hf2 _
        have hfb := hfw.trans hf2
        clear hg2 hf2 hfw hbw
        go_wp2
        go_roundw
        case rel => exact ⟨k + 1, true, out ++ BR, by omega, by go_num, rfl, hb2, hfb, HI, HC⟩
        case measure => simp [intOf]; omega
      · have e0 := widL_dec _ hpos h0
        have hp : mendC (m.drop k) = (m.drop k).take (decW (m.drop k)) := by unfold mendC; rw [if_neg h0]
        obtain ⟨n, hn⟩ : ∃ n, n = decW (m.drop k) := ⟨_, rfl⟩
        rw [e0, ← hn] at hwr
        rw [← hn] at hdr hp
        have HI : Hid (QInv mendC m (k + n) (k + n) (out ++ (m.drop k).take n)) := by
          have := hI.out.esc hkm.out n _ hn.symm hp
          rw [Nat.sub_self, List.take_zero, List.append_nil] at this
          exact this
        have HC : Hid (CInv m (k + n) bad) := hC.out.good hkm.out n hn.symm h0
        have hsub : ∀ W, Src W 9 (.string (s.extract k (k + n))) ((m.drop k).take n) := fun W => by
          have := src_sub (w := W) s k (k + n)
          rw [← HM.out, show k + n - k = n by omega] at this
          exact this
        have HS := Lib.hid hsub
        have HWR := Lib.hid hwr
        obtain ⟨n1, n2, n3⟩ := hdr
        have hx : ((n : Int) == 0) = false := by simp; omega
        have htl : Hid (((m.drop k).take n).length = n) := by show _ = _; rw [List.length_take, List.length_drop, HML.out]; omega
        clear hwr e0 hp h0 hpos hn hsub
        go_wp2_with fail
        refine HWR.out.mono ?_
        rintro e w1 ⟨rfl, hb1⟩
        have hbw : Buf w1 w.heap.size none u4 out := hb.belowA hb1
        have hfw : Fr w.heap.size none w w1 := hf.trans (Fr.of_belowA hb1 hf.size (by intro g o h; cases h))
        clear hb1 HWR
        go_wp2_with (at_builtin; refine wpList_append_buf rfl (.tmp 22) (.tmp 28) 9 rfl w.heap.size none u4 out rfl hbw _ _ rfl (HS.out _) ?c1 hfw.size (by intro g o h; cases h) ?_)
        case c1 => have h2 := hlen.out; rw [htl.out]; omega
        intro v2 w2 hb2 hg2 hf2 _
        have hfb := hfw.trans hf2
        clear hg2 hf2 hfw hbw
        go_wp2
        go_roundw
        case rel => exact ⟨k + n, bad, _, by omega, by go_num, rfl, hb2, hfb, HI, HC⟩
        case measure => simp [intOf]; omega
    · have hkn' : k = s.size := by omega
      have hfin := hI.out.fin (by rw [HML.out]; exact hkn')
      rw [Nat.sub_self, List.take_zero, List.append_nil] at hfin
      have hout : out = Q := by rw [HQ.out]; exact hfin.symm
      have hcf : Hid ((!bad) = clean) := by show _ = _; rw [HCL.out]; exact (hC.out.fin (by rw [HML.out]; exact hkn')).symm
      subst hout
      have htx := hb.text
      have HF := Lib.hid hf
      clear hfin hI hC hb hf hkn
      subst hkn'
      go_wp2
      go_ret2
      exact ⟨congrArg (fun b => Ending.returned (.tuple #[.string ⟨out.toArray⟩, .bool b])) hcf.out, HF.out.below⟩
end Go.Proofs.YtldcoaigecnpfaaDoor
