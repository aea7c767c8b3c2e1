/- The reference's stringText and StringBy, walked. impl.StringAgain by whatever options, out of its parts. -/
import Derived.Test.YtldcoaigecnpfaaDoorGStyle
import Derived.Test.YtldcoaigecnpfaaDoorGKeptG
import Derived.Test.YtldcoaigecnpfaaDoorGDecode
import Derived.Test.YtldcoaigecnpfaaDoorGReformF
import Derived.Test.YtldcoaigecnpfaaDoorGReformM
import Derived.Test.YtldcoaigecnpfaaDoorGBackP
namespace Go.Proofs.YtldcoaigecnpfaaDoor
open Go.RowKit
/-- The text of a string as it is to be written: kept but for its marks, or read and quoted anew. -/
def strTextL (mh mj kp : Bool) (P m : List UInt8) : List UInt8 := if kp = true then runF (keptG mh mj) 0 P else quoteM mh mj (dcL m)
set_option maxRecDepth 100000 in
theorem stringTextS (x0 x1 mh mj kp x5 x6 x7 x8 x9 x10 : Bool) (x11 x12 P : ByteArray) (m : List UInt8) (w : World) (hs : P.size ≤ 1000) (h2 : 2 ≤ P.size) (hm : (P.extract 1 (P.size - 1)).data.toList = m) (hok : okL m = true) :
    Calls Tryd.prog 36 #[.agg #[.bool x0, .bool x1, .bool mh, .bool mj, .bool kp, .bool x5, .bool x6, .bool x7, .bool x8, .bool x9, .bool x10, .string x11, .string x12], .string P] w (TextPost (strTextL mh mj kp P.data.toList m) w) := by
  have hml : m.length ≤ 1000 := by rw [← hm, size_list, ByteArray.size_extract]; omega
  have hdl := dcL_length m
  have HK := Lib.hid (fun W => keptGS mh mj P W (by omega))
  obtain ⟨D, hD⟩ : ∃ D : ByteArray, D = ⟨(dcL m).toArray⟩ := ⟨_, rfl⟩
  have hDl : D.data.toList = dcL m := by rw [hD]
  have hDs : D.size ≤ 2147483647 := by rw [← size_list, hDl]; omega
  have HD : Hid (∀ W, Calls Tryd.prog 60 #[.string P] W (fun e w' => (∃ b : Bool, e = .returned (.tuple #[.string D, .bool b])) ∧ Below W.heap.size W w')) := Lib.hid fun W => by rw [hD]; exact decodeS P m W (by omega) h2 hm hok
  have HQ0 : ∀ W, Calls Tryd.prog 14 #[.string D, .agg #[.bool mh, .bool mj]] W (StrBool (quoteM mh mj (dcL m)) (cleanL (dcL m)) W) := fun W => by have := quoteGS mh mj D W hDs; rwa [hDl] at this
  unfold strTextL
  generalize quoteM mh mj (dcL m) = RQ at HQ0
  generalize cleanL (dcL m) = bq at HQ0
  generalize runF (keptG mh mj) 0 P.data.toList = RK at HK
  have HQ := Lib.hid HQ0
  clear HQ0 hD hDl hDs hml hdl hm hok hs h2
  cases kp
  · rw [if_neg (by decide)]
    go_enter Tryd.func36, Tryd.ntmps36
    go_wp2_with fail
    refine (HD.out _).mono ?_
    rintro e w1 ⟨⟨b, rfl⟩, hb1⟩
    have m2 : w1.cell? ⟨w.heap.size, 2, none⟩ = some (.bool mh) := (hb1.cell (p := ⟨w.heap.size, 2, none⟩) (by simp)).trans (by simp [go_sem])
    have m3 : w1.cell? ⟨w.heap.size, 3, none⟩ = some (.bool mj) := (hb1.cell (p := ⟨w.heap.size, 3, none⟩) (by simp)).trans (by simp [go_sem])
    have HB1 : Hid (Below w.heap.size w w1) := Lib.hid (((Below.refl _ _).alloc (Nat.le_refl _) _).trans (hb1.mono (by simp)))
    clear HD hb1
    go_wp2_with fail
    refine (HQ.out _).mono ?_
    rintro e w2 ⟨rfl, hb2⟩
    have HB2 := Lib.hid (HB1.out.trans (hb2.mono HB1.out.size))
    clear HQ hb2
    go_wp2
    go_ret
    exact ⟨rfl, HB2.out⟩
  · rw [if_pos rfl]
    go_enter Tryd.func36, Tryd.ntmps36
    go_wp2_with fail
    refine (HK.out _).mono ?_
    rintro e w1 ⟨rfl, hb1⟩
    have HB1 : Hid (Below w.heap.size w w1) := Lib.hid (((Below.refl _ _).alloc (Nat.le_refl _) _).trans (hb1.mono (by simp)))
    clear hb1
    go_wp2
    go_ret
    exact ⟨rfl, HB1.out⟩
set_option maxRecDepth 100000 in
theorem stringByS (o : Opts) (mh mj kp : Bool) (hh : mh = decide (o.ht = 1)) (hj : mj = decide (o.js = 1)) (hk : kp = decide (o.pr = 1)) (h1 : o.is.size ≤ 140737488355328) (h2 : o.ps.size ≤ 140737488355328)
    (P : ByteArray) (m : List UInt8) (w : World) (hs : P.size ≤ 1000) (hp2 : 2 ≤ P.size) (hm : (P.extract 1 (P.size - 1)).data.toList = m) (hok : okL m = true) :
    Calls Tryd.prog 22 #[.string P, .agg o.cells] w (TextPost (strTextL mh mj kp P.data.toList m) w) := by
  have HS := Lib.hid (fun W => styleOf o mh mj kp hh hj hk h1 h2 W)
  have HT := Lib.hid (fun (x0 x1 x5 x6 x7 x8 x9 x10 : Bool) (x11 x12 : ByteArray) W => stringTextS x0 x1 mh mj kp x5 x6 x7 x8 x9 x10 x11 x12 P m W hs hp2 hm hok)
  generalize strTextL mh mj kp P.data.toList m = R at HT
  clear hh hj hk h1 h2 hs hp2 hm hok
  obtain ⟨du, iv, fl, it, ht, js, mu, pr, re, co, cm, ib, is, pb, ps⟩ := o
  have hcells : Opts.cells ⟨du, iv, fl, it, ht, js, mu, pr, re, co, cm, ib, is, pb, ps⟩ = #[.int .i64 du, .int .i64 iv, .int .i64 fl, .int .i64 it, .int .i64 ht, .int .i64 js, .int .i64 mu, .int .i64 pr, .int .i64 re, .int .i64 co, .int .i64 cm, .bool ib, .string is, .bool pb, .string ps] := rfl
  rw [hcells] at HS ⊢
  clear hcells
  go_enter Tryd.func22, Tryd.ntmps22
  go_wp2_with fail
  refine (HS.out _).mono ?_
  rintro e w1 ⟨⟨x0, x1, x5, x6, x7, x8, x9, x10, b, x11, x12, rfl⟩, hb1⟩
  have HB1 : Hid (Below w.heap.size w w1) := Lib.hid (((Below.refl _ _).alloc (Nat.le_refl _) _).trans (hb1.mono (by simp)))
  clear HS hb1
  go_wp2_with fail
  refine (HT.out _ _ _ _ _ _ _ _ _ _ _).mono ?_
  rintro e w2 ⟨rfl, hb2⟩
  have HB2 : Hid (Below w.heap.size w w2) := Lib.hid ((HB1.out.alloc HB1.out.size _).trans (hb2.mono (by have := HB1.out.size; simp; omega)))
  clear HT hb2
  go_wp2
  go_ret
  exact ⟨rfl, HB2.out⟩
end Go.Proofs.YtldcoaigecnpfaaDoor
namespace Go.Proofs.YtldcoaigecnpfaaDoor
open Go.RowKit
theorem keptG_all (l : List UInt8) : runF (keptG false false) 0 l = l := by
  have h : ∀ (n : Nat) (l : List UInt8), l.length ≤ n → runF (keptG false false) 0 l = l := by
    intro n
    induction n with
    | zero => intro l hl; obtain rfl : l = [] := List.eq_nil_of_length_eq_zero (by omega); rfl
    | succ n ih =>
      intro l hl
      cases l with
      | nil => rfl
      | cons c r =>
        have hw := decW_range (c :: r) (by simp)
        rw [runF_step _ _ (by simp), keptG_none, ih _ (by rw [List.length_drop]; simp only [List.length_cons] at hl ⊢; omega), List.take_append_drop]
  exact h l.length l (Nat.le_refl _)
/-- The plain facts of a string at the head of a text. -/
structure PartAt (lo : Bool) (T : List UInt8) (e : Nat) (m : List UInt8) : Prop where
  h0 : atL T 0 = 34
  h1 : 1 ≤ e
  he : e < T.length
  h34 : atL T e = 34
  hs : strN lo T 1 = e
  hm : m = (T.take e).drop 1
  hok : okL m = true
  hq : T.take (e + 1) = qT m
theorem PartAt.of {lo : Bool} {T : List UInt8} (h : ¬ strQ lo T 0 = 0) : PartAt lo T (strQ lo T 0) ((T.take (strQ lo T 0)).drop 1) := by
  obtain ⟨a0, a1, a2, a3⟩ := strQ_range h
  have hs : strN lo T 1 = strQ lo T 0 := by
    conv => rhs; unfold strQ; rw [if_pos a0]
  generalize strQ lo T 0 = e at a1 a2 a3 hs h
  have h0 : atL T 0 = 34 := by
    unfold seeP at a0; rw [if_pos (by omega)] at a0; exact a0
  refine ⟨h0, by omega, a2, a3, hs, rfl, (str_ok a2 a3 e 1 (by omega) (by omega) hs).1, ?_⟩
  have b0 : natL T 0 = 34 := by have := natL_at T 0; omega
  have be : natL T e = 34 := by have := natL_at T e; omega
  have c0 : T.getD 0 0 = 34 := by unfold natL at b0; exact UInt8.toNat_inj.1 b0
  have ce : T.getD e 0 = 34 := by unfold natL at be; exact UInt8.toNat_inj.1 be
  clear b0 be hs h0 a0 a3 h
  obtain ⟨k, rfl⟩ : ∃ k, e = k + 1 := ⟨e - 1, by omega⟩
  cases T with
  | nil => simp at a2
  | cons c r =>
    have hc : c = 34 := by simpa using c0
    have hk : k < r.length := by simpa using a2
    have hrk : r[k] = 34 := by simpa [List.getD_eq_getElem?_getD, hk] using ce
    unfold qT
    rw [List.take_succ_cons, List.take_succ_cons, List.drop_succ_cons, List.drop_zero, hc, List.take_succ_eq_append_getElem hk, hrk]
theorem ext_listA (s : ByteArray) (i j : Nat) (_h : j ≤ s.size) : (s.extract i j).data.toList = (s.data.toList.drop i).take (j - i) := by
  rw [ByteArray.data_extract, Array.toList_extract, List.extract_eq_take_drop]
theorem text_withinA (s : ByteArray) (m : List UInt8) (h : s.data.toList = qT m) : 2 ≤ s.size ∧ (s.extract 1 (s.size - 1)).data.toList = m := by
  have hz : s.size = m.length + 2 := by rw [← size_list, h]; simp [qT]
  refine ⟨by omega, ?_⟩
  rw [ext_listA _ _ _ (by omega), h, hz]
  simp [qT]
/-- What is to be written for the string at the head of a text. -/
def agOut (o : Opts) (T : List UInt8) : List UInt8 := strTextL (decide (o.ht = 1)) (decide (o.js = 1)) (decide (o.pr = 1)) (T.take (strQ (decide (o.iv = 1)) T 0 + 1)) ((T.take (strQ (decide (o.iv = 1)) T 0)).drop 1)
theorem again_ok (dst text : ByteArray) (o : Opts) (E E2 : Addr) (w : World) (h1 : dst.size ≤ 1000) (h2 : text.size ≤ 1000) (hT : Tabs2 w E E2) (hq : ¬ strQ (decide (o.iv = 1)) text.data.toList 0 = 0) :
    Calls Tryd.prog 21 #[.string dst, .string text, .agg o.cells] w (AgainPost (dst ++ ⟨(agOut o text.data.toList).toArray⟩) (strQ (decide (o.iv = 1)) text.data.toList 0 + 1) w) := by
  have pa := PartAt.of hq
  unfold agOut
  clear hq
  generalize strQ (decide (o.iv = 1)) text.data.toList 0 = e at pa ⊢
  obtain ⟨m, hm⟩ : ∃ m, m = (text.data.toList.take e).drop 1 := ⟨_, rfl⟩
  rw [← hm] at pa ⊢
  have hl := size_list text
  have hS : ∀ out : List UInt8, dst ++ ⟨out.toArray⟩ = (⟨(dst.data.toList ++ out).toArray⟩ : ByteArray) := fun out => by
    apply ByteArray.ext
    apply Array.toList_inj.1
    simp
  rw [hS]
  refine strAgain dst text o _ (e + 1) w h1 ?_
  intro B w3 h
  have f4 : flagB ((o.val : Nat) : Int) 4 = decide (o.iv = 1) := fb4 _ _ _ _ _ _
  have f512 : flagB ((o.val : Nat) : Int) 512 = decide (o.ht = 1) := fb512 _ _ _ _ _ _
  have f1024 : flagB ((o.val : Nat) : Int) 1024 = decide (o.js = 1) := fb1024 _ _ _ _ _ _
  have f1536 : flagB ((o.val : Nat) : Int) 1536 = (decide (o.ht = 1) || decide (o.js = 1)) := fb1536 _ _ _ _ _ _
  have f32 : flagB ((o.val : Nat) : Int) 32 = decide (o.pr = 1) := fb32 _ _ _ _ _ _
  obtain ⟨g, hg⟩ := h.fl.c0
  have hfl := h.fl.c1
  generalize ((o.val : Nat) : Int) = V at f4 f512 f1024 f1536 f32 hfl
  have hsz := hT.tabs.size
  have hsz3 := h.size
  have hge := h.ge
  have hT3 : Tabs2 w3 E E2 := hT.below h.below hsz
  have hc1 : text.data.toList.length ≤ (convCap (convWorld (w.alloc (Obj.cells o.cells 35)) dst) text) := by rw [hl]; exact convCap_geA _ _
  have hc2 : (convCap (convWorld (w.alloc (Obj.cells o.cells 35)) dst) text) ≤ maxLen := convCap_leA _ _ (by unfold maxLen; omega)
  have hG : ∀ g' o', some (w.heap.size + 1, 0) = some (g', o') → g' < w3.heap.size := fun g' o' q => by injection q with q; injection q with q1 q2; omega
  have hGG : ∀ g' o', some (w.heap.size + 1, 0) = some (g', o') → GB ≤ g' := fun g' o' q => by injection q with q; injection q with q1 q2; omega
  have hFG : ∀ o' : Nat, some (w.heap.size + 1, 0) ≠ some (B, o') := fun o' q => by injection q with q; injection q with q1 q2; omega
  have hgG : ∀ o' : Nat, some (w.heap.size + 1, 0) ≠ some (w.heap.size + 2, o') := fun o' q => by injection q with q; injection q with q1 q2; omega
  generalize decide (o.iv = 1) = lo at pa f4
  generalize decide (o.ht = 1) = mh at f512 f1536 ⊢
  generalize decide (o.js = 1) = mj at f1024 f1536 ⊢
  generalize decide (o.pr = 1) = kp at f32 ⊢
  unfold strTextL
  cases kp
  · rw [if_neg (by decide)]
    have := reformQuote w3.heap.size (some (w.heap.size + 1, 0)) _ dst.data.toList (w.heap.size + 2) (convCap (convWorld (w.alloc (Obj.cells o.cells 35)) dst) text) B lo text.data.toList g V E E2 w3 h.buf h.txt hc1 (by omega) (by rw [size_list]; omega) (Nat.le_refl _) hG
      (by omega) hT3 (by omega) h.lt hg hfl f4 hc2 hGG hFG e m mh mj f512 f1024 f1536 f32 pa.h0 pa.he pa.h34 pa.h1 pa.hs pa.hq pa.hm pa.hok
      (fun a b c => by rw [a, b, can_back m.length m (Nat.le_refl _) pa.hok c, pa.hq, qT_eq])
    rw [hl] at this
    exact this
  · rw [if_pos rfl]
    cases hmm : (mh || mj)
    · obtain ⟨rfl, rfl⟩ : mh = false ∧ mj = false := by simpa using hmm
      rw [keptG_all]
      have := reformKeep w3.heap.size (some (w.heap.size + 1, 0)) _ dst.data.toList (w.heap.size + 2) (convCap (convWorld (w.alloc (Obj.cells o.cells 35)) dst) text) e B lo text.data.toList g V E w3 h.buf h.txt hc1 (by omega) (by rw [size_list]; omega) (Nat.le_refl _) hG
        (by omega) hT3.tabs (by omega) h.lt hg hfl f4 f1536 f32 pa.h0 pa.he pa.h34 pa.h1 pa.hs
      rw [hl] at this
      exact this
    · rw [hmm] at f1536
      have := reformMarks w3.heap.size (some (w.heap.size + 1, 0)) _ dst.data.toList (w.heap.size + 2) (convCap (convWorld (w.alloc (Obj.cells o.cells 35)) dst) text) B lo text.data.toList g V E E2 w3 h.buf h.txt hc1 (by omega) (by rw [size_list]; omega) (Nat.le_refl _) hG
        (by omega) hT3 (by omega) h.lt hg hfl f4 hc2 hGG hFG hgG e mh mj f512 f1024 f1536 f32 pa.h0 pa.he pa.h34 pa.h1 pa.hs
      rw [hl] at this
      exact this
theorem again_no (dst text : ByteArray) (o : Opts) (E E2 : Addr) (w : World) (h1 : dst.size ≤ 1000) (h2 : text.size ≤ 1000) (hT : Tabs2 w E E2) (hq : strQ (decide (o.iv = 1)) text.data.toList 0 = 0) :
    Calls Tryd.prog 21 #[.string dst, .string text, .agg o.cells] w (AgainNo w) := by
  refine strAgainF dst text o dst.data.toList w h1 ?_
  intro B w3 h
  have hl := size_list text
  have f4 : flagB ((o.val : Nat) : Int) 4 = decide (o.iv = 1) := fb4 _ _ _ _ _ _
  obtain ⟨g, hg⟩ := h.fl.c0
  have hsz := hT.tabs.size
  have hsz3 := h.size
  have := reformFail w3.heap.size (some (w.heap.size + 1, 0)) (.slice (some ⟨w.heap.size + 1, 0, none⟩) dst.size (convCap (w.alloc (Obj.cells o.cells 35)) dst)) dst.data.toList (w.heap.size + 2) (convCap (convWorld (w.alloc (Obj.cells o.cells 35)) dst) text) B (decide (o.iv = 1)) text.data.toList g _ E E2 w3 h.buf h.txt (by rw [hl]; exact convCap_geA _ _) (by omega) (by rw [size_list]; omega) (Nat.le_refl _)
    (fun g' o' q => by injection q with q; injection q with q1 q2; omega) (by omega) (hT.below h.below hsz) (by omega) h.lt hg h.fl.c1 f4 hq
  rw [hl] at this
  exact this
end Go.Proofs.YtldcoaigecnpfaaDoor
