/- The reference's escaped and Decode (the string for which the text of a string stands), walked. -/
import Derived.Test.YtldcoaigecnpfaaDoorGEncoded
import Derived.Test.YtldcoaigecnpfaaDoorGWidth
namespace Go.Proofs.YtldcoaigecnpfaaDoor
open Go.RowKit
def EscdPost (C : List UInt8) (n : Nat) (w : World) (e : Ending) (w' : World) : Prop := (∃ b : Bool, e = .returned (.tuple #[.string ⟨C.toArray⟩, .int .i64 n, .bool b])) ∧ Below w.heap.size w w'
theorem at_nat (s : ByteArray) (k : Nat) (h : k < s.size) : ((s[k]'h).toNat : Int) = (natL s.data.toList k : Int) := by rw [at_eq, natL_at]
set_option maxRecDepth 100000 in
set_option maxHeartbeats 2000000 in
theorem escapedS (s : ByteArray) (k : Nat) (w : World) (hs : s.size ≤ 2147483647) (hk : k < s.size) (h92 : natL (s.data.toList.drop k) 0 = 92) (hok : okPc (s.data.toList.drop k) = true) :
    Calls Tryd.prog 81 #[.string s, .int .i64 k] w (EscdPost (escC (s.data.toList.drop k)) (escW (s.data.toList.drop k)) w) := by
  have hl : (s.data.toList.drop k).length = s.size - k := by rw [List.length_drop, size_list]
  unfold okPc at hok
  rw [if_pos h92, decide_eq_true_iff, hl] at hok
  obtain ⟨h2, hc⟩ := hok
  have hk1 : k + 1 < s.size := by omega
  have hat : (((s[k + 1]'hk1).toNat : Nat) : Int) = (natL (s.data.toList.drop k) 1 : Int) := by rw [at_nat, natL_drop]
  have hex : s.extract (k + 1) (k + 2) = ⟨[(s.data.toList.drop k).getD 1 0].toArray⟩ := by
    apply ByteArray.ext
    apply Array.ext'
    rw [Lib.extract_data, show k + 2 - (k + 1) = 1 by omega, takeD1 _ (by rw [List.length_drop, size_list]; omega)]
    show [_] = [_]
    rw [List.getD_eq_getElem?_getD, List.getD_eq_getElem?_getD, List.getElem?_drop, List.getElem?_drop]
  have HU1 := Lib.hid (fun W => unitAtS s k W (by omega) (by omega))
  have HU2 : Hid (k + 6 ≤ s.size → ∀ W, Calls Tryd.prog 87 #[.string s, .int .i64 ((k + 6 : Nat) : Int)] W (UnitPost2 (uV ((s.data.toList.drop k).drop 6)) W)) := Lib.hid fun h W => by
    have := unitAtS s (k + 6) W (by omega) h
    rw [List.drop_drop]; exact this
  have h6 : 0 ≤ uV (s.data.toList.drop k) → k + 6 ≤ s.size := fun q => by have := (uV_ok q).1; omega
  have hr1 := uV_range (s.data.toList.drop k)
  have hr2 := uV_range ((s.data.toList.drop k).drop 6)
  have hEC : escC (s.data.toList.drop k) = if natL (s.data.toList.drop k) 1 = 98 then [8] else if natL (s.data.toList.drop k) 1 = 102 then [12] else if natL (s.data.toList.drop k) 1 = 110 then [10] else if natL (s.data.toList.drop k) 1 = 114 then [13] else if natL (s.data.toList.drop k) 1 = 116 then [9] else if natL (s.data.toList.drop k) 1 = 117 then uniC (s.data.toList.drop k) else [(s.data.toList.drop k).getD 1 0] := rfl
  have hEW : escW (s.data.toList.drop k) = if natL (s.data.toList.drop k) 1 = 117 then uniW (s.data.toList.drop k) else 2 := rfl
  have hUC : uniC (s.data.toList.drop k) = if halfU (uV (s.data.toList.drop k)) then (if pairOk (uV (s.data.toList.drop k)) (uV ((s.data.toList.drop k).drop 6)) then Lib.encodeRune (pairV (uV (s.data.toList.drop k)) (uV ((s.data.toList.drop k).drop 6))) else BR) else Lib.encodeRune (uV (s.data.toList.drop k)) := rfl
  have hUW : uniW (s.data.toList.drop k) = if pairOk (uV (s.data.toList.drop k)) (uV ((s.data.toList.drop k).drop 6)) then 12 else 6 := rfl
  generalize escC (s.data.toList.drop k) = EC at *
  generalize escW (s.data.toList.drop k) = EW at *
  generalize uniC (s.data.toList.drop k) = UC at *
  generalize uniW (s.data.toList.drop k) = UW at *
  generalize uV ((s.data.toList.drop k).drop 6) = d at *
  generalize uV (s.data.toList.drop k) = c at *
  generalize (s.data.toList.drop k).getD 1 0 = x at *
  generalize natL (s.data.toList.drop k) 1 = n at *
  have hsz1 : (⟨[x].toArray⟩ : ByteArray).size = 1 := rfl
  by_cases u : n = 117
  · subst u
    have hc0 : 0 ≤ c := by omega
    have h6' := h6 hc0
    have HU2' := Lib.hid (HU2.out h6')
    simp only [Nat.reduceEqDiff, if_true, if_false] at hEC hEW
    subst hEC hEW
    have HE := Lib.hid (fun (z : Int) (h : 0 ≤ z ∧ z ≤ 1114111) W => encodedS z h.1 h.2 W)
    have e117 : (((s[k + 1]'hk1).toNat : Nat) : Int) = 117 := hat
    clear hc h6 HU2 hex hat hl
    by_cases hh : halfU c
    · by_cases hp : pairOk c d
      · rw [if_pos hh, if_pos hp] at hUC
        rw [if_pos hp] at hUW
        subst hUC hUW
        have HE' := Lib.hid (HE.out (pairV c d) (by have := pairV_range hp; omega))
        have hpv : pairV c d = 65536 + (c - 55296) * 1024 + (d - 56320) := rfl
        generalize Lib.encodeRune (pairV c d) = E at *
        obtain ⟨p1, p2, p3, p4⟩ := hp
        clear HE hh
        go_enter Tryd.func81, Tryd.ntmps81
        go_wp2_with fail
        refine (HU1.out _).mono ?_
        rintro e w' ⟨⟨_, rfl⟩ | ⟨q, _⟩, rfl⟩
        · go_wp2_with fail
          have HU3 := HU2'.out w'
          rw [show ((k + 6 : Nat) : Int) = (k : Int) + 6 by omega] at HU3
          refine HU3.mono ?_
          rintro e w2 ⟨⟨_, rfl⟩ | ⟨q, _⟩, rfl⟩
          · go_wp2_with fail
            have HE3 := HE'.out w2
            rw [hpv] at HE3
            refine HE3.mono ?_
            rintro e w3 ⟨rfl, hb⟩
            go_wp2
            go_ret3
            exact ⟨⟨true, rfl⟩, hb⟩
          · omega
        · omega
      · rw [if_pos hh, if_neg hp] at hUC
        rw [if_neg hp] at hUW
        subst hUC hUW
        have hnp : 56320 ≤ c ∨ d < 56320 ∨ 57343 < d := by unfold pairOk at hp; unfold halfU at hh; omega
        obtain ⟨z1, z2⟩ := hh
        clear HE hp
        rcases hnp with q | q | q
        all_goals (
          go_enter Tryd.func81, Tryd.ntmps81
          go_wp2_with fail
          refine (HU1.out _).mono ?_
          rintro e w' ⟨⟨_, rfl⟩ | ⟨q, _⟩, rfl⟩
          · go_wp2_with fail
            have HU3 := HU2'.out w'
            rw [show ((k + 6 : Nat) : Int) = (k : Int) + 6 by omega] at HU3
            refine HU3.mono ?_
            rintro e w2 ⟨⟨_, rfl⟩ | ⟨q, rfl⟩, rfl⟩
            all_goals (
              go_wp2
              all_goals (
                go_ret3
                exact ⟨⟨false, rfl⟩, Below.refl _ _⟩))
          · omega)
    · have hnp : ¬ pairOk c d := fun q => hh ⟨q.1, by have := q.2.1; omega⟩
      rw [if_neg hh] at hUC
      rw [if_neg hnp] at hUW
      subst hUC hUW
      have HE' := Lib.hid (HE.out c (by omega))
      have hn2 : c < 55296 ∨ 57343 < c := by unfold halfU at hh; omega
      generalize Lib.encodeRune c = E at *
      clear HE hh hnp
      rcases hn2 with q | q
      all_goals (
        go_enter Tryd.func81, Tryd.ntmps81
        go_wp2_with fail
        refine (HU1.out _).mono ?_
        rintro e w' ⟨⟨_, rfl⟩ | ⟨q, _⟩, rfl⟩
        · go_wp2_with fail
          refine (HE'.out _).mono ?_
          rintro e w3 ⟨rfl, hb⟩
          go_wp2
          go_ret3
          exact ⟨⟨true, rfl⟩, hb⟩
        · omega)
  · rw [if_neg u] at hEW
    subst hEW
    have HEX := Lib.hid hex
    clear hUC hUW HU1 HU2 h6 hl hr1 hr2 hex
    rcases hc with q | q | q | q | q | q | q | q | ⟨q, _⟩
    all_goals first | exact absurd q u | (
      subst q
      simp only [Nat.reduceEqDiff, if_true, if_false] at hEC
      subst hEC
      go_enter Tryd.func81, Tryd.ntmps81
      go_wp2
      go_ret3
      first
        | exact ⟨⟨true, rfl⟩, Below.refl _ _⟩
        | exact ⟨⟨true, congrArg (fun z => Ending.returned (.tuple #[.string z, .int .i64 2, .bool true])) HEX.out⟩, Below.refl _ _⟩)
def StrSome (L : List UInt8) (w : World) (e : Ending) (w' : World) : Prop := (∃ b : Bool, e = .returned (.tuple #[.string ⟨L.toArray⟩, .bool b])) ∧ Below w.heap.size w w'
/-- How far the text has been read. -/
structure DInv (m : List UInt8) (k : Nat) (out : List UInt8) : Prop where
  le : k ≤ m.length
  eq : dcL m = out ++ dcL (m.drop k)
  ok : okL (m.drop k) = true
theorem DInv.start {m : List UInt8} (h : okL m = true) : DInv m 0 [] := ⟨Nat.zero_le _, by simp, by simpa using h⟩
theorem DInv.pos {m : List UInt8} {k : Nat} (h : k < m.length) : 0 < (m.drop k).length := by rw [List.length_drop]; omega
theorem DInv.okc {m : List UInt8} {k : Nat} {out : List UInt8} (h : DInv m k out) (hk : k < m.length) : okPc (m.drop k) = true := (okL_step h.ok (DInv.pos hk)).1
theorem DInv.wle {m : List UInt8} {k : Nat} {out : List UInt8} (h : DInv m k out) (hk : k < m.length) : k + dcW (m.drop k) ≤ m.length := by
  have := dcW_le _ (DInv.pos hk) (h.okc hk)
  rw [List.length_drop] at this; omega
theorem DInv.next {m : List UInt8} {k : Nat} {out : List UInt8} (h : DInv m k out) (hk : k < m.length) : DInv m (k + dcW (m.drop k)) (out ++ dcC (m.drop k)) := by
  refine ⟨h.wle hk, ?_, ?_⟩
  · rw [h.eq, dcL_step _ (DInv.pos hk), List.drop_drop, List.append_assoc]
  · have := (okL_step h.ok (DInv.pos hk)).2
    rw [List.drop_drop] at this; exact this
theorem DInv.fin {m : List UInt8} {k : Nat} {out : List UInt8} (h : DInv m k out) (hk : k = m.length) : dcL m = out := by
  rw [h.eq, hk, List.drop_of_length_le (Nat.le_refl _)]
  show out ++ [] = out
  simp
theorem DInv.bound {m : List UInt8} {k : Nat} {out : List UInt8} (h : DInv m k out) : out.length ≤ 4 * m.length := by
  have h1 := congrArg List.length h.eq
  rw [List.length_append] at h1
  have := dcL_length m
  omega
set_option maxRecDepth 100000 in
set_option maxHeartbeats 4000000 in
theorem decodeS (t : ByteArray) (m : List UInt8) (w : World) (hs : t.size ≤ 500000000) (ht : 2 ≤ t.size) (hm : (t.extract 1 (t.size - 1)).data.toList = m) (hok : okL m = true) :
    Calls Tryd.prog 60 #[.string t] w (StrSome (dcL m) w) := by
  obtain ⟨s, hsx⟩ : ∃ s, s = t.extract 1 (t.size - 1) := ⟨_, rfl⟩
  rw [← hsx] at hm
  have hss : s.size = t.size - 2 := by rw [hsx, ByteArray.size_extract]; omega
  have hml : m.length = s.size := by rw [← hm, size_list]
  have HWD : Hid (∀ (k : Nat) (h : k < s.size) W, Calls Tryd.prog 26 #[.string s, .int .i64 k] W (WidthPost (widL (m.drop k)) W)) := Lib.hid fun k h W => by rw [← hm]; exact width s k W (by omega) h
  have HES : Hid (∀ (k : Nat) (h : k < s.size) W, natL (m.drop k) 0 = 92 → okPc (m.drop k) = true → Calls Tryd.prog 81 #[.string s, .int .i64 k] W (EscdPost (escC (m.drop k)) (escW (m.drop k)) W)) := Lib.hid fun k h W a b => by rw [← hm] at a b ⊢; exact escapedS s k W (by omega) h a b
  have hat : Hid (∀ (k : Nat) (h : k < s.size), (((s[k]'h).toNat : Nat) : Int) = (natL (m.drop k) 0 : Int)) := Lib.hid fun k h => by rw [at_nat, natL_drop, ← hm]; rfl
  have hst : Hid (DInv m 0 []) := Lib.hid (DInv.start hok)
  have HM := Lib.hid hm
  have HML := Lib.hid hml
  have hx1 : t.extract 1 (t.size - 1) = s := hsx.symm
  obtain ⟨Q, hQ⟩ : ∃ Q, Q = dcL m := ⟨_, rfl⟩
  rw [← hQ]
  have HQ := Lib.hid hQ
  clear hm hml hok hQ hsx
  have hs4 : s.size ≤ 500000000 := by omega
  go_enter Tryd.func60, Tryd.ntmps60
  go_wp2
  go_loopw [5, 6, 7] (fun b cl i wr => ∃ (k : Nat) (cb : Bool) (out : List UInt8), k ≤ s.size ∧ i = .int .i64 k ∧ cl = .bool cb ∧ Buf wr w.heap.size none b out ∧ Fr w.heap.size none w wr ∧ Hid (DInv m k out)) (fun _ _ i _ => s.size - (intOf i).toNat)
  case atStart => exact ⟨0, true, [], Nat.zero_le _, rfl, rfl, Buf.empty w, Fr.of_below ((Below.refl _ _).alloc (Nat.le_refl _) _) (by intro g o h; cases h), hst⟩
  case round =>
    clear hst
    obtain ⟨k, cb, out, hk, rfl, rfl, hb, hf, hI⟩ := hrel
    by_cases hkn : k < s.size
    · have hkm : Hid (k < m.length) := by have := HML.out; show _ < _; omega
      have hpos := DInv.pos hkm.out
      have hlen : Hid (out.length ≤ 4 * s.size) := by have := hI.out.bound; have := HML.out; show _ ≤ _; omega
      have hok := hI.out.okc hkm.out
      have hwl := hI.out.wle hkm.out
      have hnx := hI.out.next hkm.out
      have hsat := hat.out k hkn
      have hcl := dcC_length (m.drop k) hpos
      have hw1 := dcW_pos (m.drop k) hpos
      rw [HML.out] at hwl
      by_cases h92 : natL (m.drop k) 0 = 92
      · have eC : dcC (m.drop k) = escC (m.drop k) := by unfold dcC; rw [if_pos h92]
        have eW : dcW (m.drop k) = escW (m.drop k) := by unfold dcW; rw [if_pos h92]
        rw [eC] at hcl
        rw [eW] at hwl hw1
        rw [eC, eW] at hnx
        have HWR := Lib.hid (HES.out k hkn wr h92 hok)
        have HN := Lib.hid hnx
        have HCL := Lib.hid hcl
        have hs92 : ((((s[k]'hkn).toNat : Nat) : Int) == 92) = true := by rw [hsat, h92]; rfl
        clear hok hnx hsat hcl h92 eC eW hpos
        generalize escC (m.drop k) = C at *
        generalize escW (m.drop k) = n at *
        go_wp2_with fail
        refine HWR.out.mono ?_
        rintro e w1 ⟨⟨b2, rfl⟩, hb1⟩
        have hbw : Buf w1 w.heap.size none u5 out := hb.belowA hb1
        have hfw : Fr w.heap.size none w w1 := hf.trans (Fr.of_belowA hb1 hf.size (by intro g o h; cases h))
        clear hb1 HWR
        go_wp2_with (at_builtin; refine wpList_append_buf rfl (.tmp 33) (.tmp 34) 9 rfl w.heap.size none u5 out rfl hbw _ C rfl (Src.text ⟨C.toArray⟩) ?c1 hfw.size (by intro g o h; cases h) ?_)
        case c1 => have h2 := hlen.out; have h3 := HCL.out; omega
        intro v2 w2 hb2 hg2 hf2 _
        have hfb := hfw.trans hf2
        clear hg2 hf2 hfw hbw
        cases cb
        all_goals (
          go_wp2
          go_roundw
          case rel => exact ⟨k + n, _, out ++ C, by omega, by go_num, rfl, hb2, hfb, HN⟩
          case measure => simp [intOf]; omega)
      · have eC : dcC (m.drop k) = mendC (m.drop k) := by unfold dcC; rw [if_neg h92]
        have eW : dcW (m.drop k) = decW (m.drop k) := by unfold dcW; rw [if_neg h92]
        have hs92 : ((((s[k]'hkn).toNat : Nat) : Int) == 92) = false := by rw [hsat]; simp; omega
        have hwr := HWD.out k hkn wr
        by_cases h0 : rlL (m.drop k) = 0
        · have e0 : widL (m.drop k) = 0 := (widL_zero _ hpos).2 h0
          rw [e0] at hwr
          have hp : mendC (m.drop k) = BR := by unfold mendC; rw [if_pos h0]
          have hd1 : decW (m.drop k) = 1 := by unfold decW; rw [if_pos h0]
          rw [eC, eW, hp, hd1] at hnx
          have HN := Lib.hid hnx
          have HWR := Lib.hid hwr
          clear hwr e0 hp hd1 h0 hpos hok hnx hsat hcl h92 eC eW hw1 hwl
          go_wp2_with fail
          refine HWR.out.mono ?_
          rintro e w1 ⟨rfl, hb1⟩
          have hbw : Buf w1 w.heap.size none u5 out := hb.belowA hb1
          have hfw : Fr w.heap.size none w w1 := hf.trans (Fr.of_belowA hb1 hf.size (by intro g o h; cases h))
          clear hb1 HWR
          go_wp2_with (at_builtin; refine wpList_append_buf rfl (.tmp 48) (.const (.string ⟨#[239, 191, 189]⟩)) 9 rfl w.heap.size none u5 out rfl hbw _ BR rfl (Src.text ⟨#[239, 191, 189]⟩) ?c1 hfw.size (by intro g o h; cases h) ?_)
          case c1 => have h2 := hlen.out; simp [BR]; omega
          intro v2 w2 hb2 hg2 hf2 _
          have hfb := hfw.trans hf2
          clear hg2 hf2 hfw hbw
          go_wp2
          go_roundw
          case rel => exact ⟨k + 1, false, out ++ BR, by omega, by go_num, rfl, hb2, hfb, HN⟩
          case measure => simp [intOf]; omega
        · have e0 := widL_dec _ hpos h0
          have hp : mendC (m.drop k) = (m.drop k).take (decW (m.drop k)) := by unfold mendC; rw [if_neg h0]
          rw [eC, eW, hp] at hnx
          rw [eW] at hwl hw1
          have hdr := decW_range _ hpos
          rw [List.length_drop, HML.out] at hdr
          rw [e0] at hwr
          have HWR := Lib.hid hwr
          have HN := Lib.hid hnx
          clear hwr e0 hp h0 hpos hok hnx hsat hcl h92 eC eW
          generalize decW (m.drop k) = n at *
          have hsub : ∀ W, Src W 9 (.string (s.extract k (k + n))) ((m.drop k).take n) := fun W => by
            have := src_sub (w := W) s k (k + n)
            rw [HM.out, show k + n - k = n by omega] at this
            exact this
          have HS := Lib.hid hsub
          obtain ⟨n1, n2, n3⟩ := hdr
          have hx : ((n : Int) == 0) = false := by simp; omega
          have htl : Hid (((m.drop k).take n).length = n) := by show _ = _; rw [List.length_take, List.length_drop, HML.out]; omega
          clear hsub
          go_wp2_with fail
          refine HWR.out.mono ?_
          rintro e w1 ⟨rfl, hb1⟩
          have hbw : Buf w1 w.heap.size none u5 out := hb.belowA hb1
          have hfw : Fr w.heap.size none w w1 := hf.trans (Fr.of_belowA hb1 hf.size (by intro g o h; cases h))
          clear hb1 HWR
          go_wp2_with (at_builtin; refine wpList_append_buf rfl (.tmp 52) (.tmp 58) 9 rfl w.heap.size none u5 out rfl hbw _ _ rfl (HS.out _) ?c1 hfw.size (by intro g o h; cases h) ?_)
          case c1 => have h2 := hlen.out; rw [htl.out]; omega
          intro v2 w2 hb2 hg2 hf2 _
          have hfb := hfw.trans hf2
          clear hg2 hf2 hfw hbw
          go_wp2
          go_roundw
          case rel => exact ⟨k + n, cb, _, by omega, by go_num, rfl, hb2, hfb, HN⟩
          case measure => simp [intOf]; omega
    · have hkn' : k = s.size := by omega
      have hfin := hI.out.fin (by rw [HML.out]; exact hkn')
      have hout : out = Q := by rw [HQ.out]; exact hfin.symm
      subst hout
      have htx := hb.text
      have HF := Lib.hid hf
      clear hfin hI hb hf hkn
      subst hkn'
      go_wp2
      go_ret2
      exact ⟨⟨cb, rfl⟩, HF.out.below⟩
end Go.Proofs.YtldcoaigecnpfaaDoor
