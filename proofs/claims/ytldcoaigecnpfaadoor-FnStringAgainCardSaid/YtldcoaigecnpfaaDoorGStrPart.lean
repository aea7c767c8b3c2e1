/- spec.StringPart, walked: the string with which a text begins. The statement FnStringAgain, walked: it returns true, and leaves all that lay below as it was. -/
import Derived.Test.YtldcoaigecnpfaaDoorGRdQuoted
import Derived.Test.YtldcoaigecnpfaaDoorGClose
import Derived.Test.YtldcoaigecnpfaaDoorGStyText
import Derived.WalkSpells
namespace Go.Proofs.YtldcoaigecnpfaaDoor
open Go.RowKit
theorem grown_newP {w w' : World} {o : Obj} (h : (w.alloc o).grownBy w' (some w.heap.size)) : Below w.heap.size w w' :=
  ⟨h.os, h.tape, h.output, Nat.le_trans (by simp) h.size, fun k hk => (h.block k (by simp; omega) (fun e => by injection e with e; omega)).trans (by show (w.heap.push o)[k]? = _; rw [Array.getElem?_push, if_neg (by omega)])⟩
/-- Up to the mark at q, or some text and 'no'. -/
def PartPost (q : Nat) (s : ByteArray) (w : World) (e : Ending) (w' : World) : Prop :=
  (¬ q = 0 → e = .returned (.tuple #[.string (s.extract 0 (q + 1)), .bool true])) ∧ (q = 0 → ∃ s', e = .returned (.tuple #[.string s', .bool false])) ∧ Below w.heap.size w w'
set_option maxRecDepth 100000 in
theorem stringPart (s : ByteArray) (lo : Bool) (w : World) (hs : s.size ≤ 140737488355328) :
    Calls Tryd.prog 20 #[.string s, .bool lo] w (PartPost (strQ lo s.data.toList 0) s w) := by
  have hR : RdAt (w.alloc (Obj.cells #[.string s, .int .i64 0, .bool false, .bool lo, .int .i64 0, .bool false] 57)) w.heap.size s 0 false lo 0 false := by
    refine ⟨?_, ?_, ?_, ?_, ?_, ?_, ?_, ?_⟩
    all_goals simp
  have hq := quotedS w.heap.size s 0 false lo 0 false _ hR hs (Nat.zero_le _)
  have hr : ¬ strQ lo s.data.toList 0 = 0 → strQ lo s.data.toList 0 < s.size ∧ seeP s.data.toList (strQ lo s.data.toList 0) = 34 := fun q => by
    have h := (strQ_range q).2.2
    rw [size_list] at h
    exact ⟨h.1, by unfold seeP; rw [if_pos (by rw [size_list]; exact h.1)]; exact h.2⟩
  have HND : Hid (∀ q w1, ¬ q = 0 → q < s.size → seeP s.data.toList q = 34 → RdAt w1 w.heap.size s q false lo 0 false → Calls Tryd.prog 32 #[.pointer (some ⟨w.heap.size, 0, none⟩), .int .u8 34, .int .u8 34] w1 (fun e w' => e = .returned (.bool true) ∧ RdAt w' w.heap.size s (q + 1) false lo 0 false ∧ w1.grownBy w' (some w.heap.size))) := Lib.hid fun q w1 _ hlt h34 h1 => (need1 w.heap.size s q false lo 0 false 34 (by decide) w1 h1 hs (Nat.le_of_lt hlt)).mono fun e w' h => by
    rcases h with ⟨_, a, b, c⟩ | ⟨no, _⟩
    · exact ⟨a, b, c⟩
    · exact absurd h34 no
  generalize strQ lo s.data.toList 0 = q at hq hr
  have HQ := Lib.hid hq
  clear hq hR
  go_enter Tryd.func20, Tryd.ntmps20
  go_wp2_with fail
  refine HQ.out.mono ?_
  rintro e w1 (⟨ok, rfl, h1, g1⟩ | ⟨ok, rfl, ⟨k2, f2, le2, hk2, n2, h1⟩, g1⟩)
  · obtain ⟨hlt, h34⟩ := hr ok
    have HN := Lib.hid (HND.out q w1 ok hlt h34 h1)
    have HOK := Lib.hid ok
    have hq1 : (q : Int) + 1 ≤ (s.size : Int) := by omega
    have hq3 : ((q : Int) + 1).toNat = q + 1 := by omega
    have G1 := Lib.hid g1
    clear HND HQ h1 g1 h34 hr ok
    go_wp2_with fail
    refine HN.out.mono ?_
    rintro e w2 ⟨rfl, h2, g2⟩
    have c1 : w2.cell? ⟨w.heap.size, 1, none⟩ = some (.int .i64 ((q : Int) + 1)) := by have := h2.c1; rw [this]; congr 2
    have HB := Lib.hid (grown_newP (G1.out.trans g2))
    clear h2 g2 G1 HN
    go_wp2
    go_ret2
    exact ⟨fun _ => rfl, fun z => absurd z HOK.out, HB.out⟩
  · have c1 := h1.c1
    have hk3 : (k2 : Int) ≤ (s.size : Int) := by omega
    have HB := Lib.hid (grown_newP g1)
    have HOK := Lib.hid ok
    clear HND HQ h1 g1 hr ok
    go_wp2
    go_ret2
    exact ⟨fun z => absurd z HOK.out, fun _ => ⟨_, rfl⟩, HB.out⟩
end Go.Proofs.YtldcoaigecnpfaaDoor
namespace Go.Proofs.YtldcoaigecnpfaaDoor
open Go.RowKit
theorem fitsO (o : Opts) (h1 : o.is.size ≤ 2147483647) (h2 : o.ps.size ≤ 2147483647) (w : World) :
    Calls Tryd.prog 19 #[.agg o.cells] w fun e w' => e = .returned (.bool true) ∧ Below w.heap.size w w' := by
  obtain ⟨du, iv, fl, it, ht, js, mu, pr, re, co, cm, ib, is, pb, ps⟩ := o
  have hcells : Opts.cells ⟨du, iv, fl, it, ht, js, mu, pr, re, co, cm, ib, is, pb, ps⟩ = #[.int .i64 du, .int .i64 iv, .int .i64 fl, .int .i64 it, .int .i64 ht, .int .i64 js, .int .i64 mu, .int .i64 pr, .int .i64 re, .int .i64 co, .int .i64 cm, .bool ib, .string is, .bool pb, .string ps] := rfl
  rw [hcells]
  simp only at h1 h2
  have q1 : ¬ ((2147483647 : Int) < (is.size : Int)) := by omega
  have q2 : ¬ ((2147483647 : Int) < (ps.size : Int)) := by omega
  clear hcells h1 h2
  go_enter Tryd.func19, Tryd.ntmps19
  go_wp2
  go_ret
  exact ⟨rfl, (Below.refl _ _).alloc (Nat.le_refl _) _⟩
theorem fitsO_no (o : Opts) (h : ¬ (o.is.size ≤ 2147483647 ∧ o.ps.size ≤ 2147483647)) (w : World) :
    Calls Tryd.prog 19 #[.agg o.cells] w fun e w' => e = .returned (.bool false) ∧ Below w.heap.size w w' := by
  obtain ⟨du, iv, fl, it, ht, js, mu, pr, re, co, cm, ib, is, pb, ps⟩ := o
  have hcells : Opts.cells ⟨du, iv, fl, it, ht, js, mu, pr, re, co, cm, ib, is, pb, ps⟩ = #[.int .i64 du, .int .i64 iv, .int .i64 fl, .int .i64 it, .int .i64 ht, .int .i64 js, .int .i64 mu, .int .i64 pr, .int .i64 re, .int .i64 co, .int .i64 cm, .bool ib, .string is, .bool pb, .string ps] := rfl
  rw [hcells]
  simp only at h
  clear hcells
  by_cases h1 : is.size ≤ 2147483647
  · have q1 : ¬ ((2147483647 : Int) < (is.size : Int)) := by omega
    have q2 : (2147483647 : Int) < (ps.size : Int) := by omega
    clear h h1
    go_enter Tryd.func19, Tryd.ntmps19
    go_wp2
    go_ret
    exact ⟨rfl, (Below.refl _ _).alloc (Nat.le_refl _) _⟩
  · have q1 : (2147483647 : Int) < (is.size : Int) := by omega
    clear h h1
    go_enter Tryd.func19, Tryd.ntmps19
    go_wp2
    go_ret
    exact ⟨rfl, (Below.refl _ _).alloc (Nat.le_refl _) _⟩
theorem agOut_length (o : Opts) (T : List UInt8) (hT : T.length ≤ 1000) : (agOut o T).length ≤ 30000 := by
  unfold agOut
  generalize decide (o.iv = 1) = lo
  generalize hP : T.take (strQ lo T 0 + 1) = P
  generalize hm : (T.take (strQ lo T 0)).drop 1 = m
  have h1 : P.length ≤ 1000 := by rw [← hP, List.length_take]; omega
  have h2 : m.length ≤ 1000 := by rw [← hm, List.length_drop, List.length_take]; omega
  have h3 := dcL_length m
  unfold strTextL
  split
  · have := runF_length (keptG (decide (o.ht = 1)) (decide (o.js = 1))) 6 (fun l hl => keptG_length _ _ l hl) P.length P (Nat.le_refl _)
    omega
  · have := runF_length (qpiece (decide (o.ht = 1)) (decide (o.js = 1))) 6 (fun l hl => qpiece_length _ _ l hl) (dcL m).length (dcL m) (Nat.le_refl _)
    unfold quoteM
    simp only [List.length_append, List.length_cons, List.length_nil]
    omega
set_option maxRecDepth 100000 in
set_option maxHeartbeats 8000000 in
theorem law_walk (dst text : ByteArray) (o : Opts) (E E2 : Addr) (w : World) (h1 : dst.size ≤ 2147483647) (h2 : text.size ≤ 2147483647) (h3 : o.is.size ≤ 2147483647) (h4 : o.ps.size ≤ 2147483647) (hT : Tabs2 w E E2) :
    Calls Tryd.prog 9 #[.string dst, .string text, .agg o.cells] w fun e w' => e = .returned (.bool true) ∧ Below w.heap.size w w' := by
  have HF := Lib.hid (fun W => fitsO o h3 h4 W)
  have HG := Lib.hid (fun W => fit2 dst text W h1 h2)
  have HP := Lib.hid (fun W : World => stringPart text (decide (o.iv = 1)) W (by omega))
  have hl := size_list text
  have o1 : okFit dst = true → dst.size ≤ 1000 := fun h => by unfold okFit at h; simpa using h
  have o2 : okFit text = true → text.size ≤ 1000 := fun h => by unfold okFit at h; simpa using h
  have HN : Hid (okFit dst = true → okFit text = true → strQ (decide (o.iv = 1)) text.data.toList 0 = 0 → ∀ W, Below w.heap.size w W → Calls Tryd.prog 21 #[.string dst, .string text, .agg o.cells] W (AgainNo W)) := Lib.hid fun a b c W hW =>
    again_no dst text o E E2 W (o1 a) (o2 b) (hT.below hW hT.tabs.size) c
  obtain ⟨R, hR⟩ : ∃ R : ByteArray, R = ⟨(agOut o text.data.toList).toArray⟩ := ⟨_, rfl⟩
  have HK : Hid (okFit dst = true → okFit text = true → ¬ strQ (decide (o.iv = 1)) text.data.toList 0 = 0 → ∀ W, Below w.heap.size w W → Calls Tryd.prog 21 #[.string dst, .string text, .agg o.cells] W (AgainPost (dst ++ R) (strQ (decide (o.iv = 1)) text.data.toList 0 + 1) W)) := Lib.hid fun a b c W hW => by
    rw [hR]; exact again_ok dst text o E E2 W (o1 a) (o2 b) (hT.below hW hT.tabs.size) c
  obtain ⟨P, hP⟩ : ∃ P, P = text.extract 0 (strQ (decide (o.iv = 1)) text.data.toList 0 + 1) := ⟨_, rfl⟩
  have hrl : ¬ strQ (decide (o.iv = 1)) text.data.toList 0 = 0 → strQ (decide (o.iv = 1)) text.data.toList 0 < text.size := fun q => by have := (strQ_range q).2.2.1; rwa [size_list] at this
  have HPS : Hid (¬ strQ (decide (o.iv = 1)) text.data.toList 0 = 0 → P.size = strQ (decide (o.iv = 1)) text.data.toList 0 + 1) := Lib.hid fun q => by
    rw [hP, ByteArray.size_extract]; have := hrl q; omega
  have HS : Hid (okFit text = true → ¬ strQ (decide (o.iv = 1)) text.data.toList 0 = 0 → ∀ W, Calls Tryd.prog 22 #[.string P, .agg o.cells] W (fun e w' => e = .returned (.string R) ∧ Below W.heap.size W w')) := Lib.hid fun b c W => by
    have pa := PartAt.of c
    have hpl : P.data.toList = text.data.toList.take (strQ (decide (o.iv = 1)) text.data.toList 0 + 1) := by
      rw [hP, ext_listA _ _ _ (by have := hrl c; omega)]; simp
    have hpq := text_withinA P _ (hpl.trans pa.hq)
    have hsz : P.size ≤ 1000 := by have := HPS.out c; have := hrl c; have := o2 b; omega
    have := stringByS o _ _ _ rfl rfl rfl (by omega) (by omega) P _ W hsz hpq.1 hpq.2 pa.hok
    rw [hpl] at this
    rw [hR]
    exact this
  have HRS : Hid (okFit dst = true → okFit text = true → dst.size + R.size ≤ 100000) := Lib.hid fun a b => by
    have := agOut_length o text.data.toList (by rw [hl]; exact o2 b)
    have hz : R.size = (agOut o text.data.toList).length := by rw [hR]; simp [ByteArray.size]
    have := o1 a
    omega
  have hd1 : ¬ ((2147483647 : Int) < (dst.size : Int)) := by omega
  have hd2 : ¬ ((2147483647 : Int) < (text.size : Int)) := by omega
  unfold PartPost at HP
  rw [← hP] at HP
  clear hT hrl hP hR hl o1 o2 h1 h2 h3 h4
  obtain ⟨lo, hlo⟩ : ∃ lo, lo = decide (o.iv = 1) := ⟨_, rfl⟩
  rw [← hlo] at HP HN HK HPS HS
  generalize strQ lo text.data.toList 0 = q at HP HN HK HPS HS
  generalize okFit dst = g1 at HG HN HK HRS
  generalize okFit text = g2 at HG HN HK HS HRS
  obtain ⟨g, hg⟩ : ∃ g, g = (g1 && g2) := ⟨_, rfl⟩
  rw [← hg] at HG
  have HGG := Lib.hid hg
  clear hg
  obtain ⟨du, iv, fl, it, ht, js, mu, pr, re, co, cm, ib, is, pb, ps⟩ := o
  have hcells : Opts.cells ⟨du, iv, fl, it, ht, js, mu, pr, re, co, cm, ib, is, pb, ps⟩ = #[.int .i64 du, .int .i64 iv, .int .i64 fl, .int .i64 it, .int .i64 ht, .int .i64 js, .int .i64 mu, .int .i64 pr, .int .i64 re, .int .i64 co, .int .i64 cm, .bool ib, .string is, .bool pb, .string ps] := rfl
  rw [hcells] at HF HN HK HS ⊢
  simp only at hlo
  have e1 : (iv == 1) = lo := by rw [hlo]; exact Bool.eq_iff_iff.2 (by simp)
  clear hcells hlo
  have HKK : Hid (∀ wx, Below (w.heap.size + 1) (w.alloc (Obj.cells #[.int .i64 du, .int .i64 iv, .int .i64 fl, .int .i64 it, .int .i64 ht, .int .i64 js, .int .i64 mu, .int .i64 pr, .int .i64 re, .int .i64 co, .int .i64 cm, .bool ib, .string is, .bool pb, .string ps] 35)) wx → wx.cell? ⟨w.heap.size, 0, none⟩ = some (.int .i64 du) ∧ wx.cell? ⟨w.heap.size, 1, none⟩ = some (.int .i64 iv) ∧ wx.cell? ⟨w.heap.size, 2, none⟩ = some (.int .i64 fl) ∧ wx.cell? ⟨w.heap.size, 3, none⟩ = some (.int .i64 it) ∧ wx.cell? ⟨w.heap.size, 4, none⟩ = some (.int .i64 ht) ∧ wx.cell? ⟨w.heap.size, 5, none⟩ = some (.int .i64 js) ∧ wx.cell? ⟨w.heap.size, 6, none⟩ = some (.int .i64 mu) ∧ wx.cell? ⟨w.heap.size, 7, none⟩ = some (.int .i64 pr) ∧ wx.cell? ⟨w.heap.size, 8, none⟩ = some (.int .i64 re) ∧ wx.cell? ⟨w.heap.size, 9, none⟩ = some (.int .i64 co) ∧ wx.cell? ⟨w.heap.size, 10, none⟩ = some (.int .i64 cm) ∧ wx.cell? ⟨w.heap.size, 11, none⟩ = some (.bool ib) ∧ wx.cell? ⟨w.heap.size, 12, none⟩ = some (.string is) ∧ wx.cell? ⟨w.heap.size, 13, none⟩ = some (.bool pb) ∧ wx.cell? ⟨w.heap.size, 14, none⟩ = some (.string ps)) := Lib.hid fun wx hb =>
    ⟨(hb.cell (p := ⟨w.heap.size, 0, none⟩) (by show w.heap.size < w.heap.size + 1; omega)).trans (by simp [go_sem]), (hb.cell (p := ⟨w.heap.size, 1, none⟩) (by show w.heap.size < w.heap.size + 1; omega)).trans (by simp [go_sem]), (hb.cell (p := ⟨w.heap.size, 2, none⟩) (by show w.heap.size < w.heap.size + 1; omega)).trans (by simp [go_sem]), (hb.cell (p := ⟨w.heap.size, 3, none⟩) (by show w.heap.size < w.heap.size + 1; omega)).trans (by simp [go_sem]), (hb.cell (p := ⟨w.heap.size, 4, none⟩) (by show w.heap.size < w.heap.size + 1; omega)).trans (by simp [go_sem]), (hb.cell (p := ⟨w.heap.size, 5, none⟩) (by show w.heap.size < w.heap.size + 1; omega)).trans (by simp [go_sem]), (hb.cell (p := ⟨w.heap.size, 6, none⟩) (by show w.heap.size < w.heap.size + 1; omega)).trans (by simp [go_sem]), (hb.cell (p := ⟨w.heap.size, 7, none⟩) (by show w.heap.size < w.heap.size + 1; omega)).trans (by simp [go_sem]), (hb.cell (p := ⟨w.heap.size, 8, none⟩) (by show w.heap.size < w.heap.size + 1; omega)).trans (by simp [go_sem]), (hb.cell (p := ⟨w.heap.size, 9, none⟩) (by show w.heap.size < w.heap.size + 1; omega)).trans (by simp [go_sem]), (hb.cell (p := ⟨w.heap.size, 10, none⟩) (by show w.heap.size < w.heap.size + 1; omega)).trans (by simp [go_sem]), (hb.cell (p := ⟨w.heap.size, 11, none⟩) (by show w.heap.size < w.heap.size + 1; omega)).trans (by simp [go_sem]), (hb.cell (p := ⟨w.heap.size, 12, none⟩) (by show w.heap.size < w.heap.size + 1; omega)).trans (by simp [go_sem]), (hb.cell (p := ⟨w.heap.size, 13, none⟩) (by show w.heap.size < w.heap.size + 1; omega)).trans (by simp [go_sem]), (hb.cell (p := ⟨w.heap.size, 14, none⟩) (by show w.heap.size < w.heap.size + 1; omega)).trans (by simp [go_sem])⟩
  have HB0 : Hid (Below w.heap.size w (w.alloc (Obj.cells #[.int .i64 du, .int .i64 iv, .int .i64 fl, .int .i64 it, .int .i64 ht, .int .i64 js, .int .i64 mu, .int .i64 pr, .int .i64 re, .int .i64 co, .int .i64 cm, .bool ib, .string is, .bool pb, .string ps] 35))) := Lib.hid ((Below.refl _ _).alloc (Nat.le_refl _) _)
  have HU : Hid (∀ wx, Below (w.heap.size + 1) (w.alloc (Obj.cells #[.int .i64 du, .int .i64 iv, .int .i64 fl, .int .i64 it, .int .i64 ht, .int .i64 js, .int .i64 mu, .int .i64 pr, .int .i64 re, .int .i64 co, .int .i64 cm, .bool ib, .string is, .bool pb, .string ps] 35)) wx → Below w.heap.size w wx) := Lib.hid fun wx hb => HB0.out.trans (hb.mono (by omega))
  have HA : Hid ((w.alloc (Obj.cells #[.int .i64 du, .int .i64 iv, .int .i64 fl, .int .i64 it, .int .i64 ht, .int .i64 js, .int .i64 mu, .int .i64 pr, .int .i64 re, .int .i64 co, .int .i64 cm, .bool ib, .string is, .bool pb, .string ps] 35)).heap.size = w.heap.size + 1) := Lib.hid (by simp)
  cases hq : decide (q = 0)
  · have hq0 : ¬ q = 0 := of_decide_eq_false hq
    clear hq
    have HQ0 := Lib.hid hq0
    cases g
    · clear HN HK HPS HS HRS hq0
      go_enter Tryd.func9, Tryd.ntmps9
      go_wp2_with fail
      refine (HF.out _).mono ?_
      rintro e w1 ⟨rfl, hb1⟩
      have C1 : Hid (Below (w.heap.size + 1) (w.alloc (Obj.cells #[.int .i64 du, .int .i64 iv, .int .i64 fl, .int .i64 it, .int .i64 ht, .int .i64 js, .int .i64 mu, .int .i64 pr, .int .i64 re, .int .i64 co, .int .i64 cm, .bool ib, .string is, .bool pb, .string ps] 35)) w1) := Lib.hid (by have := HA.out; rw [this] at hb1; exact hb1)
      clear hb1
      go_wp2_with fail
      refine (HG.out _).mono ?_
      rintro e w2 ⟨rfl, rfl⟩
      go_wp2
      go_ret
      exact ⟨rfl, HU.out _ (C1.out.alloc (by have := C1.out.size; rw [HA.out] at this; exact this) _)⟩
    · have hgg : g1 = true ∧ g2 = true := by simpa using HGG.out.symm
      have HK2 := Lib.hid (HK.out hgg.1 hgg.2 hq0)
      have HS2 := Lib.hid (HS.out hgg.2 hq0)
      have hrs := HRS.out hgg.1 hgg.2
      have hps := HPS.out hq0
      obtain ⟨n, hn⟩ : ∃ n, n = q + 1 := ⟨_, rfl⟩
      rw [← hn] at hps HK2
      have hnp : ((n : Int) == (P.size : Int)) = true := by rw [hps]; exact beq_self_eq_true _
      have hadd : ∀ W, (Op.stringOp .add dst R).run Tryd.prog W = .ok (.string (dst ++ R)) W := fun W => run_string_add_sum W _ _ (by omega)
      have hself : ((dst ++ R).toList == (dst ++ R).toList) = true := beq_self_eq_true _
      clear HN HK HS HPS HRS hgg hrs hn hq0 hps
      go_enter Tryd.func9, Tryd.ntmps9
      go_wp2_with fail
      refine (HF.out _).mono ?_
      rintro e w1 ⟨rfl, hb1⟩
      have C1 : Hid (Below (w.heap.size + 1) (w.alloc (Obj.cells #[.int .i64 du, .int .i64 iv, .int .i64 fl, .int .i64 it, .int .i64 ht, .int .i64 js, .int .i64 mu, .int .i64 pr, .int .i64 re, .int .i64 co, .int .i64 cm, .bool ib, .string is, .bool pb, .string ps] 35)) w1) := Lib.hid (by have := HA.out; rw [this] at hb1; exact hb1)
      clear hb1
      go_wp2_with fail
      refine (HG.out _).mono ?_
      rintro e w2 ⟨rfl, rfl⟩
      have C2 : Hid (Below (w.heap.size + 1) (w.alloc (Obj.cells #[.int .i64 du, .int .i64 iv, .int .i64 fl, .int .i64 it, .int .i64 ht, .int .i64 js, .int .i64 mu, .int .i64 pr, .int .i64 re, .int .i64 co, .int .i64 cm, .bool ib, .string is, .bool pb, .string ps] 35)) (w1.alloc (Obj.cells #[.string dst, .string text] 9))) := Lib.hid (C1.out.alloc (by have := C1.out.size; rw [HA.out] at this; exact this) _)
      have S2 : Hid (w.heap.size + 1 ≤ (w1.alloc (Obj.cells #[.string dst, .string text] 9)).heap.size) := Lib.hid (by have := C2.out.size; rw [HA.out] at this; exact this)
      generalize w1.alloc (Obj.cells #[.string dst, .string text] 9) = w2 at C2 S2 ⊢
      obtain ⟨k0, k1, k2, k3, k4, k5, k6, k7, k8, k9, k10, k11, k12, k13, k14⟩ := HKK.out w2 C2.out
      clear C1
      go_wp2_with fail
      refine (HP.out _).mono ?_
      rintro e w3 ⟨ha, hb, hb3⟩
      obtain rfl := ha HQ0.out
      have C3 := Lib.hid (C2.out.trans (hb3.mono S2.out))
      have S3 := Lib.hid (Nat.le_trans S2.out hb3.size)
      clear ha hb hb3 k0 k1 k2 k3 k4 k5 k6 k7 k8 k9 k10 k11 k12 k13 k14
      obtain ⟨k0, k1, k2, k3, k4, k5, k6, k7, k8, k9, k10, k11, k12, k13, k14⟩ := HKK.out w3 C3.out
      clear C2 S2
      go_wp2_with fail
      refine (HK2.out _ (HU.out _ C3.out)).mono ?_
      rintro e w4 ⟨rfl, hb4⟩
      have C4 := Lib.hid (C3.out.trans (hb4.mono S3.out))
      have S4 := Lib.hid (Nat.le_trans S3.out hb4.size)
      clear hb4 k0 k1 k2 k3 k4 k5 k6 k7 k8 k9 k10 k11 k12 k13 k14
      obtain ⟨k0, k1, k2, k3, k4, k5, k6, k7, k8, k9, k10, k11, k12, k13, k14⟩ := HKK.out w4 C4.out
      clear C3 S3
      go_wp2_with fail
      refine (HS2.out _).mono ?_
      rintro e w5 ⟨rfl, hb5⟩
      have C5 := Lib.hid (HU.out _ (C4.out.trans (hb5.mono S4.out)))
      clear hb5 k0 k1 k2 k3 k4 k5 k6 k7 k8 k9 k10 k11 k12 k13 k14
      go_wp2
      go_ret
      exact ⟨rfl, C5.out⟩
  · have hq0 : q = 0 := of_decide_eq_true hq
    clear hq HK HS HPS HRS
    have HQ0 := Lib.hid hq0
    cases g
    · clear HN hq0
      go_enter Tryd.func9, Tryd.ntmps9
      go_wp2_with fail
      refine (HF.out _).mono ?_
      rintro e w1 ⟨rfl, hb1⟩
      have C1 : Hid (Below (w.heap.size + 1) (w.alloc (Obj.cells #[.int .i64 du, .int .i64 iv, .int .i64 fl, .int .i64 it, .int .i64 ht, .int .i64 js, .int .i64 mu, .int .i64 pr, .int .i64 re, .int .i64 co, .int .i64 cm, .bool ib, .string is, .bool pb, .string ps] 35)) w1) := Lib.hid (by have := HA.out; rw [this] at hb1; exact hb1)
      clear hb1
      go_wp2_with fail
      refine (HG.out _).mono ?_
      rintro e w2 ⟨rfl, rfl⟩
      go_wp2
      go_ret
      exact ⟨rfl, HU.out _ (C1.out.alloc (by have := C1.out.size; rw [HA.out] at this; exact this) _)⟩
    · have hgg : g1 = true ∧ g2 = true := by simpa using HGG.out.symm
      have HN2 := Lib.hid (HN.out hgg.1 hgg.2 hq0)
      clear HN hgg hq0
      go_enter Tryd.func9, Tryd.ntmps9
      go_wp2_with fail
      refine (HF.out _).mono ?_
      rintro e w1 ⟨rfl, hb1⟩
      have C1 : Hid (Below (w.heap.size + 1) (w.alloc (Obj.cells #[.int .i64 du, .int .i64 iv, .int .i64 fl, .int .i64 it, .int .i64 ht, .int .i64 js, .int .i64 mu, .int .i64 pr, .int .i64 re, .int .i64 co, .int .i64 cm, .bool ib, .string is, .bool pb, .string ps] 35)) w1) := Lib.hid (by have := HA.out; rw [this] at hb1; exact hb1)
      clear hb1
      go_wp2_with fail
      refine (HG.out _).mono ?_
      rintro e w2 ⟨rfl, rfl⟩
      have C2 : Hid (Below (w.heap.size + 1) (w.alloc (Obj.cells #[.int .i64 du, .int .i64 iv, .int .i64 fl, .int .i64 it, .int .i64 ht, .int .i64 js, .int .i64 mu, .int .i64 pr, .int .i64 re, .int .i64 co, .int .i64 cm, .bool ib, .string is, .bool pb, .string ps] 35)) (w1.alloc (Obj.cells #[.string dst, .string text] 9))) := Lib.hid (C1.out.alloc (by have := C1.out.size; rw [HA.out] at this; exact this) _)
      have S2 : Hid (w.heap.size + 1 ≤ (w1.alloc (Obj.cells #[.string dst, .string text] 9)).heap.size) := Lib.hid (by have := C2.out.size; rw [HA.out] at this; exact this)
      generalize w1.alloc (Obj.cells #[.string dst, .string text] 9) = w2 at C2 S2 ⊢
      obtain ⟨k0, k1, k2, k3, k4, k5, k6, k7, k8, k9, k10, k11, k12, k13, k14⟩ := HKK.out w2 C2.out
      clear C1
      go_wp2_with fail
      refine (HP.out _).mono ?_
      rintro e w3 ⟨ha, hb, hb3⟩
      obtain ⟨s', rfl⟩ := hb HQ0.out
      have C3 := Lib.hid (C2.out.trans (hb3.mono S2.out))
      have S3 := Lib.hid (Nat.le_trans S2.out hb3.size)
      clear ha hb hb3 k0 k1 k2 k3 k4 k5 k6 k7 k8 k9 k10 k11 k12 k13 k14
      obtain ⟨k0, k1, k2, k3, k4, k5, k6, k7, k8, k9, k10, k11, k12, k13, k14⟩ := HKK.out w3 C3.out
      clear C2 S2
      go_wp2_with fail
      refine (HN2.out _ (HU.out _ C3.out)).mono ?_
      rintro e w4 ⟨⟨S, z, rfl⟩, hb4⟩
      have C4 := Lib.hid (HU.out _ (C3.out.trans (hb4.mono S3.out)))
      clear hb4 k0 k1 k2 k3 k4 k5 k6 k7 k8 k9 k10 k11 k12 k13 k14
      go_wp2
      go_ret
      exact ⟨rfl, C4.out⟩
theorem fnStringAgain_any (dst text : ByteArray) (o : Opts) (w : World) {E E2 : Addr} (hT : Tabs2 w E E2) :
    Calls Tryd.prog 9 #[.string dst, .string text, .agg o.cells] w fun e w' => e = .returned (.bool true) ∧ Below w.heap.size w w' := by
  by_cases h1 : dst.size ≤ 2147483647
  · by_cases h2 : text.size ≤ 2147483647
    · by_cases h3 : o.is.size ≤ 2147483647 ∧ o.ps.size ≤ 2147483647
      · exact law_walk dst text o E E2 w h1 h2 h3.1 h3.2 hT
      · have HF := Lib.hid (fun W => fitsO_no o h3 W)
        have hd1 : ¬ ((2147483647 : Int) < (dst.size : Int)) := by omega
        have hd2 : ¬ ((2147483647 : Int) < (text.size : Int)) := by omega
        clear hT h1 h2 h3
        obtain ⟨du, iv, fl, it, ht, js, mu, pr, re, co, cm, ib, is, pb, ps⟩ := o
        have hcells : Opts.cells ⟨du, iv, fl, it, ht, js, mu, pr, re, co, cm, ib, is, pb, ps⟩ = #[.int .i64 du, .int .i64 iv, .int .i64 fl, .int .i64 it, .int .i64 ht, .int .i64 js, .int .i64 mu, .int .i64 pr, .int .i64 re, .int .i64 co, .int .i64 cm, .bool ib, .string is, .bool pb, .string ps] := rfl
        rw [hcells] at HF ⊢
        clear hcells
        go_enter Tryd.func9, Tryd.ntmps9
        go_wp2_with fail
        refine (HF.out _).mono ?_
        rintro e w1 ⟨rfl, hb1⟩
        have HB : Hid (Below w.heap.size w w1) := Lib.hid (((Below.refl _ _).alloc (Nat.le_refl _) _).trans (hb1.mono (by simp)))
        clear hb1
        go_wp2
        go_ret
        exact ⟨rfl, HB.out⟩
    · have h' : (2147483647 : Int) < (text.size : Int) := by omega
      have hd1 : ¬ ((2147483647 : Int) < (dst.size : Int)) := by omega
      clear hT h1 h2
      obtain ⟨du, iv, fl, it, ht, js, mu, pr, re, co, cm, ib, is, pb, ps⟩ := o
      have hcells : Opts.cells ⟨du, iv, fl, it, ht, js, mu, pr, re, co, cm, ib, is, pb, ps⟩ = #[.int .i64 du, .int .i64 iv, .int .i64 fl, .int .i64 it, .int .i64 ht, .int .i64 js, .int .i64 mu, .int .i64 pr, .int .i64 re, .int .i64 co, .int .i64 cm, .bool ib, .string is, .bool pb, .string ps] := rfl
      rw [hcells]
      clear hcells
      go_enter Tryd.func9, Tryd.ntmps9
      go_wp2
      go_ret
      exact ⟨rfl, (Below.refl _ _).alloc (Nat.le_refl _) _⟩
  · have h' : (2147483647 : Int) < (dst.size : Int) := by omega
    clear hT h1
    obtain ⟨du, iv, fl, it, ht, js, mu, pr, re, co, cm, ib, is, pb, ps⟩ := o
    have hcells : Opts.cells ⟨du, iv, fl, it, ht, js, mu, pr, re, co, cm, ib, is, pb, ps⟩ = #[.int .i64 du, .int .i64 iv, .int .i64 fl, .int .i64 it, .int .i64 ht, .int .i64 js, .int .i64 mu, .int .i64 pr, .int .i64 re, .int .i64 co, .int .i64 cm, .bool ib, .string is, .bool pb, .string ps] := rfl
    rw [hcells]
    clear hcells
    go_enter Tryd.func9, Tryd.ntmps9
    go_wp2
    go_ret
    exact ⟨rfl, (Below.refl _ _).alloc (Nat.le_refl _) _⟩
end Go.Proofs.YtldcoaigecnpfaaDoor
