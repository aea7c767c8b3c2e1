/- jsonwire.ReformatString, walked: where no string stands; where a string is unquoted and quoted again. impl.StringAgain where no string stands, walked. -/
import Derived.Test.YtldcoaigecnpfaaDoorGReform
import Derived.Test.YtldcoaigecnpfaaDoorGConsG
import Derived.Test.YtldcoaigecnpfaaDoorGAppendQuoteO
import Derived.Test.YtldcoaigecnpfaaDoorGAppUnq
import Derived.Test.YtldcoaigecnpfaaDoorGFits
namespace Go.Proofs.YtldcoaigecnpfaaDoor
open Go.RowKit
theorem Tabs2.below {w w' : World} {E E2 : Addr} {n : Nat} (h : Tabs2 w E E2) (hb : Below n w w') (hn : GB ≤ n) : Tabs2 w' E E2 := by
  have hlt : 2 < n := Nat.lt_of_lt_of_le (by decide : 2 < GB) hn
  exact ⟨h.tabs.below hb hn, (World.cell?_of_block (a := ⟨2, 0, none⟩) (hb.block 2 hlt)).trans h.eof⟩
/-- No string: an error, and the bytes as they were. -/
def RefFail (base : Nat) (G : Option (Nat × Nat)) (v : Value) (L : List UInt8) (w : World) (e : Ending) (w' : World) : Prop := ∃ (z : Int) (er : Value), e = .returned (.tuple #[v, .int .i64 z, er]) ∧ ErrV er ∧ Buf w' base G v L ∧ Fr base G w w'
set_option maxRecDepth 100000 in
set_option maxHeartbeats 8000000 in
theorem reformFail (base : Nat) (G : Option (Nat × Nat)) (v : Value) (l0 : List UInt8) (g cap F : Nat) (lo : Bool) (T : List UInt8) (P V : Int) (E E2 : Addr) (w : World)
    (hB : Buf w base G v l0) (hm : BytesAt w g 0 T) (hcap : T.length ≤ cap) (hnb : T.length ≤ 1000000) (_hsz : l0.length ≤ 1000000) (hbase : base ≤ w.heap.size) (hG : ∀ g o, G = some (g, o) → g < base)
    (hg : g < base) (hT : Tabs2 w E E2) (hGB : GB ≤ base) (hF : F < base)
    (hF0 : w.cell? ⟨F, 0, none⟩ = some (.int .u64 P)) (hF1 : w.cell? ⟨F, 1, none⟩ = some (.int .u64 V)) (h4 : flagB V 4 = lo)
    (hno : strQ lo T 0 = 0) :
    Calls Tryd.prog 33 #[v, .slice (some ⟨g, 0, none⟩) T.length cap, .pointer (some ⟨F, 0, none⟩)] w (RefFail base G v l0 w) := by
  have HB : Hid (∀ W, Below w.heap.size w W → Buf W base G v l0) := Lib.hid fun W h => hB.below h hB.block
  have HM : Hid (∀ W, Below w.heap.size w W → BytesAt W g 0 T) := Lib.hid fun W h => hm.below h (by omega)
  have HC : Hid (∀ W, Below w.heap.size w W → W.cell? ⟨F, 0, none⟩ = some (.int .u64 P) ∧ W.cell? ⟨F, 1, none⟩ = some (.int .u64 V)) := Lib.hid fun W h => ⟨(World.cell?_of_block (a := ⟨F, 0, none⟩) (h.block F (by omega))).trans hF0, (World.cell?_of_block (a := ⟨F, 1, none⟩) (h.block F (by omega))).trans hF1⟩
  have HTT : Hid (∀ W, Below w.heap.size w W → Tabs2 W E E2) := Lib.hid fun W h => hT.below h (by omega)
  have HG4 := Lib.hid (fun W : World => flB V 4 lo h4 P W)
  have HGH := Lib.hid hG
  have HGO := Lib.hid hbase
  obtain ⟨q0, q1⟩ := HC.out w (Below.refl _ _)
  have HCS : Hid (∀ W, Below w.heap.size w W → w.heap.size < W.heap.size → FV W w.heap.size true → Calls Tryd.prog 51 #[.pointer (some ⟨w.heap.size, 0, none⟩), .slice (some ⟨g, 0, none⟩) T.length cap, .bool (!lo)] W (CsFail w.heap.size W)) := Lib.hid fun W hW hlt hfv =>
    consumeF w.heap.size g cap lo (!lo) T E E2 W rfl (HM.out W hW) hcap hnb hfv (by omega) (by have := hW.size; omega) (fun w' hg' => HTT.out w' (below_grown hW hg')) hno
  clear hB hm hT hF0 hF1 h4 hno hG
  generalize T.length = n at *
  go_enter Tryd.func33, Tryd.ntmps33
  obtain ⟨W1, hW1⟩ : ∃ W1, W1 = w.alloc (Obj.cells #[.int .u64 0] 96) := ⟨_, rfl⟩
  have B1 : Below w.heap.size w W1 := by rw [hW1]; exact (Below.refl _ _).alloc (Nat.le_refl _) _
  have S1 : W1.heap.size = w.heap.size + 1 := by rw [hW1]; simp
  have FV1 : FV W1 w.heap.size true := by rw [hW1]; exact ⟨⟨0, by omega, by simp [go_sem], fun _ => rfl⟩, by simp [go_sem]⟩
  obtain ⟨r0, r1⟩ := HC.out W1 B1
  rw [hW1] at r0 r1
  go_wp2_with fail
  rw [← hW1]
  refine (HG4.out _).mono ?_
  rintro e2 w2 ⟨rfl, b2⟩
  have B2 := B1.trans (b2.mono B1.size)
  have FV2 := FV1.below b2
  have HCN := Lib.hid (HCS.out w2 B2 (by have := b2.size; omega) FV2)
  clear r0 r1 hW1 HCS FV1 HG4
  go_wp2_with fail
  refine HCN.out.mono ?_
  rintro e3 w3 ⟨z, er, rfl, ⟨te, pe, rfl⟩, g3⟩
  have B3 := below_grown B2 g3
  have hbuf := Lib.hid (HB.out w3 B3)
  have HFR := Lib.hid (Fr.of_belowAll B3 HGO.out HGH.out)
  clear FV2 B2 b2 B1 S1 g3 HCN B3
  go_wp2
  go_ret3
  exact ⟨_, _, rfl, ⟨_, _, rfl⟩, hbuf.out, HFR.out⟩
/-- AppendQuote's call behind AppendUnquote's. -/
def UqPost (base : Nat) (G : Option (Nat × Nat)) (L : List UInt8) (w : World) (e : Ending) (w' : World) : Prop := ∃ vq er, e = .returned (.tuple #[vq, er]) ∧ Buf w' base G vq L ∧ Fr base G w w'
theorem quoteAgain (base : Nat) (G : Option (Nat × Nat)) (v v' : Value) (l0 D : List UInt8) (F n0 N : Nat) (P V : Int) (E : Addr) (W : World) (hB : Buf W base G v l0) (hN : ∀ g o, place v = some (g, o) → g < N) (hNn : N ≤ n0) (hU : Buf W n0 none v' D)
    (hsz : l0.length ≤ 1000000) (hD : D.length ≤ 10000000) (hbase : base ≤ W.heap.size) (hG : ∀ g o, G = some (g, o) → g < base) (hT : Tabs W E) (hGB : GB ≤ base) (hGG : ∀ g o, G = some (g, o) → GB ≤ g) (hF : F < base) (hFG : ∀ o, G ≠ some (F, o))
    (hF0 : W.cell? ⟨F, 0, none⟩ = some (.int .u64 P)) (hF1 : W.cell? ⟨F, 1, none⟩ = some (.int .u64 V)) :
    Calls Tryd.prog 47 #[v, v', .pointer (some ⟨F, 0, none⟩)] W (UqPost base G (l0 ++ [34] ++ runF (qpiece (flagB V 512) (flagB V 1024)) 0 D ++ [34]) W) := by
  have hR := hB.rebase
  have hpl : ∀ g o, place v = some (g, o) → base ≤ g ∨ G = some (g, o) := fun g o e => by
    rcases hB with ⟨rfl, rfl⟩ | ⟨g', o', cap', cur', fz', rfl, hq, _⟩
    · cases e
    · cases e; exact hq
  have hfin : ∀ (L : List UInt8) (er : Value) e w', QuotePost W.heap.size (place v) L er W e w' → UqPost base G L W e w' := fun L er e w' ⟨vq, a, b, c⟩ => ⟨vq, er, a, Buf.unbase hB b hbase, Fr.unbase hB c hbase hG⟩
  rcases hU with ⟨rfl, rfl⟩ | ⟨g', o', cap', cur, fz, rfl, hp, hh, h1, h2, h3, h4, h5⟩
  · rw [runF_nil, List.append_nil]
    exact (appendQuoteNil W.heap.size (place v) v l0 F P V W hR (by omega) (Nat.le_refl _) hB.place_lt).mono fun e w' h => hfin _ _ _ _ h
  · have hg' : n0 ≤ g' := by
      rcases hp with hp | hp
      · exact hp
      · cases hp
    have hlt : g' < W.heap.size := (Array.getElem?_eq_some_iff.1 hh).1
    have hby : BytesAt W g' o' D := fun j hj => by rw [cell_of_row W g' (o' + j) cur _ fz hh]; exact h5 j hj
    refine (appendQuoteO o' W.heap.size (place v) v l0 g' cap' D F P V E W hR hby h1 h2 (by omega) (Nat.le_refl _) hB.place_lt hlt (fun o e => ?_) hT (by omega) (fun g o e => ?_) (by omega) (fun o e => ?_) hF0 hF1).mono fun e w' h => hfin _ _ _ _ h
    · have := hN _ _ e; omega
    · rcases hpl g o e with q | q
      · omega
      · exact hGG g o q
    · rcases hpl F o e with q | q
      · omega
      · exact hFG o q
set_option maxRecDepth 100000 in
set_option maxHeartbeats 8000000 in
theorem reformQuote (base : Nat) (G : Option (Nat × Nat)) (v : Value) (l0 : List UInt8) (g cap F : Nat) (lo : Bool) (T : List UInt8) (P V : Int) (E E2 : Addr) (w : World)
    (hB : Buf w base G v l0) (hm : BytesAt w g 0 T) (hcap : T.length ≤ cap) (hnb : T.length ≤ 1000000) (hsz : l0.length ≤ 1000000) (hbase : base ≤ w.heap.size) (hG : ∀ g o, G = some (g, o) → g < base)
    (hg : g < base) (hT : Tabs2 w E E2) (hGB : GB ≤ base) (hF : F < base)
    (hF0 : w.cell? ⟨F, 0, none⟩ = some (.int .u64 P)) (hF1 : w.cell? ⟨F, 1, none⟩ = some (.int .u64 V)) (h4 : flagB V 4 = lo)
    (hcm : cap ≤ maxLen) (hGG : ∀ g o, G = some (g, o) → GB ≤ g) (hFG : ∀ o, G ≠ some (F, o))
    (e : Nat) (m : List UInt8) (mh mj : Bool) (h512 : flagB V 512 = mh) (h1024 : flagB V 1024 = mj) (h1536 : flagB V 1536 = (mh || mj)) (h32 : flagB V 32 = false)
    (h0 : atL T 0 = 34) (he : e < T.length) (h34 : atL T e = 34) (h1 : 1 ≤ e) (hs : strN lo T 1 = e) (hqm : T.take (e + 1) = qT m) (hmd : m = (T.take e).drop 1) (hok : okL m = true)
    (hcan : mh = false → mj = false → canL m = true → T.take (e + 1) = [34] ++ runF (qpiece mh mj) 0 (dcL m) ++ [34]) :
    Calls Tryd.prog 33 #[v, .slice (some ⟨g, 0, none⟩) T.length cap, .pointer (some ⟨F, 0, none⟩)] w (RefPost base G (l0 ++ ([34] ++ runF (qpiece mh mj) 0 (dcL m) ++ [34])) (e + 1) w) := by
  have hml : m.length + 2 = e + 1 := by rw [hmd, List.length_drop, List.length_take]; omega
  have HB : Hid (∀ W, Below w.heap.size w W → Buf W base G v l0) := Lib.hid fun W h => hB.below h hB.block
  have HM : Hid (∀ W, Below w.heap.size w W → BytesAt W g 0 T) := Lib.hid fun W h => hm.below h (by omega)
  have HC : Hid (∀ W, Below w.heap.size w W → W.cell? ⟨F, 0, none⟩ = some (.int .u64 P) ∧ W.cell? ⟨F, 1, none⟩ = some (.int .u64 V)) := Lib.hid fun W h => ⟨(World.cell?_of_block (a := ⟨F, 0, none⟩) (h.block F (by omega))).trans hF0, (World.cell?_of_block (a := ⟨F, 1, none⟩) (h.block F (by omega))).trans hF1⟩
  have HTT : Hid (∀ W, Below w.heap.size w W → Tabs2 W E E2) := Lib.hid fun W h => hT.below h (by omega)
  have HG4 := Lib.hid (fun W : World => flB V 4 lo h4 P W)
  have HGH := Lib.hid hG
  have HGO := Lib.hid hbase
  obtain ⟨q0, q1⟩ := HC.out w (Below.refl _ _)
  have HCS : Hid (∀ W, Below w.heap.size w W → w.heap.size < W.heap.size → FV W w.heap.size true → Calls Tryd.prog 51 #[.pointer (some ⟨w.heap.size, 0, none⟩), .slice (some ⟨g, 0, none⟩) T.length cap, .bool (!lo)] W (ConsPost e w.heap.size (T.take e) W)) := Lib.hid fun W hW hlt hfv =>
    consume w.heap.size g cap e lo (!lo) T W rfl (HM.out W hW) hcap hnb (HTT.out W hW).tabs.u8 h0 he h34 h1 hs hfv (by omega) (by have := hW.size; omega) (fun w' hg' => (HTT.out w' (below_grown hW hg')).tabs.u8)
  have HUN : Hid (∀ W, Below w.heap.size w W → Calls Tryd.prog 48 #[.slice none 0 0, .slice (some ⟨g, 0, none⟩) (e + 1) cap] W (UnqPost W.heap.size none (dcL m) (neatL m) W)) := Lib.hid fun W hW => by
    have h2 := appUnq W.heap.size none (.slice none 0 0) [] g cap m E W (Buf.nil _ _ _) (fun j hj => by rw [← hqm] at hj ⊢; rw [List.length_take] at hj; rw [HM.out W hW j (by omega), atL_take _ _ _ (by omega)]) (by rw [hml]; omega) hcm (by simp; omega) (Nat.le_refl _) (fun g o q => by cases q) (by have := hW.size; omega) (fun o q => by cases q) (HTT.out W hW).tabs (by have := hW.size; omega) (fun g o q => by cases q) hok
    rw [hml, List.nil_append] at h2
    exact h2
  have HQA : Hid (∀ W v' n0, Below w.heap.size w W → w.heap.size ≤ n0 → Buf W n0 none v' (dcL m) → Calls Tryd.prog 47 #[v, v', .pointer (some ⟨F, 0, none⟩)] W (UqPost base G (l0 ++ [34] ++ runF (qpiece mh mj) 0 (dcL m) ++ [34]) W)) := Lib.hid fun W v' n0 hW hn hU => by
    have h2 := quoteAgain base G v v' l0 (dcL m) F n0 w.heap.size P V E W (HB.out W hW) hB.place_lt hn hU hsz (by have := dcL_length m; omega) (by have := hW.size; omega) hG (HTT.out W hW).tabs hGB hGG hF hFG (HC.out W hW).1 (HC.out W hW).2
    rw [h512, h1024] at h2
    exact h2
  have HG15 := Lib.hid (fun W : World => flB V 1536 (mh || mj) h1536 P W)
  have HG32 := Lib.hid (fun W : World => flB V 32 false h32 P W)
  have HSR : Hid (∀ W, Below w.heap.size w W → Src W 23 (.slice (some ⟨g, 0, none⟩) (e + 1) cap) (T.take (e + 1))) := Lib.hid fun W h => by
    have := src_part (HM.out W h) 0 (e + 1) cap (Nat.zero_le _) (by omega)
    simpa using this
  have hq1 : (e : Int) + 1 ≤ (cap : Int) := by omega
  have hq2 : ((e : Int) + 1).toNat = e + 1 := by omega
  have hq3 : (e : Int) + 1 ≤ (T.length : Int) := by omega
  have HSZ : Hid (l0.length + (T.take (e + 1)).length ≤ 140737488355328) := Lib.hid (by rw [List.length_take]; show _ ≤ _; omega)
  obtain ⟨OUT, hOUT⟩ : ∃ Q, Q = [34] ++ runF (qpiece mh mj) 0 (dcL m) ++ [34] := ⟨_, rfl⟩
  have HL2 : l0 ++ [34] ++ runF (qpiece mh mj) 0 (dcL m) ++ [34] = l0 ++ OUT := by rw [hOUT]; simp only [List.append_assoc]
  rw [HL2] at HQA
  rw [← hOUT] at hcan ⊢
  obtain ⟨Q, hQ⟩ : ∃ Q, Q = T.take (e + 1) := ⟨_, rfl⟩
  rw [← hQ] at HSR HSZ hcan
  have HCAN := Lib.hid hcan
  have hmd2 := Lib.hid hmd
  clear hB hm hT hF0 hF1 h4 h1536 h32 h0 h34 hs hG hQ hqm hok hcan hmd hOUT HL2 hml h512 h1024 hFG hGG
  generalize T.length = n at *
  generalize T.take e = M at *
  go_enter Tryd.func33, Tryd.ntmps33
  obtain ⟨W1, hW1⟩ : ∃ W1, W1 = w.alloc (Obj.cells #[.int .u64 0] 96) := ⟨_, rfl⟩
  have B1 : Below w.heap.size w W1 := by rw [hW1]; exact (Below.refl _ _).alloc (Nat.le_refl _) _
  have S1 : W1.heap.size = w.heap.size + 1 := by rw [hW1]; simp
  have FV1 : FV W1 w.heap.size true := by rw [hW1]; exact ⟨⟨0, by omega, by simp [go_sem], fun _ => rfl⟩, by simp [go_sem]⟩
  obtain ⟨r0, r1⟩ := HC.out W1 B1
  rw [hW1] at r0 r1
  go_wp2_with fail
  rw [← hW1]
  refine (HG4.out _).mono ?_
  rintro e2 w2 ⟨rfl, b2⟩
  have B2 := B1.trans (b2.mono B1.size)
  have FV2 := FV1.below b2
  have HCN := Lib.hid (HCS.out w2 B2 (by have := b2.size; omega) FV2)
  clear r0 r1 hW1 HCS FV1 HG4
  go_wp2_with fail
  refine HCN.out.mono ?_
  rintro e3 w3 ⟨cn, rfl, f3, g3, hcn3⟩
  rw [← hmd2.out] at hcn3
  have B3 := below_grown B2 g3
  obtain ⟨⟨fv, hfv, cv, hfc⟩, _⟩ := f3
  have HCN3 : Hid (fv < 2 → canL m = true) := Lib.hid fun q => hcn3 (hfc q)
  obtain ⟨r0, r1⟩ := HC.out w3 B3
  have HB3 := Lib.hid B3
  clear FV2 B2 b2 B1 S1 g3 HCN B3 hcn3 hfc
  go_wp2_with fail
  refine (HG15.out _).mono ?_
  rintro e4 w4 ⟨rfl, b4⟩
  have HB4 := Lib.hid (HB3.out.trans (b4.mono HB3.out.size))
  have cv4 : w4.cell? ⟨w.heap.size, 0, none⟩ = some (.int .u64 fv) := (b4.cell (p := ⟨w.heap.size, 0, none⟩) (World.block_lt_of_cell? _ _ cv)).trans cv
  clear b4 cv r0 r1 HG15
  cases hmm : (mh || mj)
  · obtain ⟨hmh, hmj⟩ : mh = false ∧ mj = false := by simpa using hmm
    go_wp2_with fail
    refine (isCanon fv hfv _ rfl _).mono ?_
    rintro e5 w5 ⟨rfl, rfl⟩
    obtain ⟨r0, r1⟩ := HC.out w5 HB4.out
    by_cases hf2 : fv < 2
    · have hd : decide (fv < 2) = true := decide_eq_true hf2
      simp only [hd]
      have HOQ := Lib.hid (HCAN.out hmh hmj (HCN3.out hf2))
      have hbuf := HB.out w5 HB4.out
      have hsr := HSR.out w5 HB4.out
      have hsz4 := HB4.out.size
      clear hd hf2 cv4 hfv HUN HQA HCAN HCN3 hmh hmj hmm
      go_wp2_with (at_builtin; refine wpList_append_buf rfl (.tmp 49) (.tmp 52) 23 rfl base G v l0 rfl hbuf _ _ rfl hsr HSZ.out (Nat.le_trans HGO.out hsz4) HGH.out ?_)
      intro v6 w6 hb6 hg6 hf6 _
      rw [HOQ.out] at hb6
      have HB6 := Lib.hid hb6
      have HF6 := Lib.hid ((Fr.of_belowAll HB4.out HGO.out HGH.out).trans hf6)
      clear hb6 hg6 hf6
      go_wp2
      go_ret3
      exact ⟨v6, rfl, HB6.out, HF6.out⟩
    · have hd : decide (fv < 2) = false := decide_eq_false hf2
      simp only [hd]
      clear hd hf2 cv4 hfv HCAN HCN3 hmh hmj hmm HSR
      go_wp2_with fail
      refine (HG32.out _).mono ?_
      rintro e6 w6 ⟨rfl, b6⟩
      have HB5 := Lib.hid (HB4.out.trans (b6.mono HB4.out.size))
      obtain ⟨s0, s1⟩ := HC.out w6 HB5.out
      clear b6 r0 r1
      go_wp2_with fail
      refine (HG32.out _).mono ?_
      rintro e6 w9 ⟨rfl, b6⟩
      have HBX := Lib.hid (HB5.out.trans (b6.mono HB5.out.size))
      clear b6 s0 s1 HG32
      go_wp2_with fail
      refine (HUN.out _ HBX.out).mono ?_
      rintro e7 w7 ⟨v7, ev7, rfl, hb7, hf7, _⟩
      have B7 := Lib.hid (HBX.out.trans (hf7.below.mono HBX.out.size))
      have HQ7 := Lib.hid (HQA.out w7 v7 _ B7.out HBX.out.size hb7)
      clear hb7 hf7 HUN HQA
      go_wp2_with fail
      refine HQ7.out.mono ?_
      rintro e8 w8 ⟨v8, er8, rfl, hb8, hf8⟩
      have HB8 := Lib.hid hb8
      have HF8 := Lib.hid ((Fr.of_belowAll B7.out HGO.out HGH.out).trans hf8)
      clear hb8 hf8 HQ7
      go_wp2
      go_ret3
      exact ⟨v8, rfl, HB8.out, HF8.out⟩
  · obtain ⟨r0, r1⟩ := HC.out w4 HB4.out
    clear cv4 hfv HCAN HCN3 hmm HSR
    go_wp2_with fail
    refine (HG32.out _).mono ?_
    rintro e6 w9 ⟨rfl, b6⟩
    have HBX := Lib.hid (HB4.out.trans (b6.mono HB4.out.size))
    clear b6 r0 r1 HG32
    go_wp2_with fail
    refine (HUN.out _ HBX.out).mono ?_
    rintro e7 w7 ⟨v7, ev7, rfl, hb7, hf7, _⟩
    have B7 := Lib.hid (HBX.out.trans (hf7.below.mono HBX.out.size))
    have HQ7 := Lib.hid (HQA.out w7 v7 _ B7.out HBX.out.size hb7)
    clear hb7 hf7 HUN HQA
    go_wp2_with fail
    refine HQ7.out.mono ?_
    rintro e8 w8 ⟨v8, er8, rfl, hb8, hf8⟩
    have HB8 := Lib.hid hb8
    have HF8 := Lib.hid ((Fr.of_belowAll B7.out HGO.out HGH.out).trans hf8)
    clear hb8 hf8 HQ7
    go_wp2
    go_ret3
    exact ⟨v8, rfl, HB8.out, HF8.out⟩
end Go.Proofs.YtldcoaigecnpfaaDoor
namespace Go.Proofs.YtldcoaigecnpfaaDoor
open Go.RowKit
def AgainNo (w : World) (e : Ending) (w' : World) : Prop := (∃ (S : ByteArray) (z : Int), e = .returned (.tuple #[.string S, .int .i64 z, .bool false])) ∧ Below w.heap.size w w'
set_option maxRecDepth 100000 in
set_option maxHeartbeats 4000000 in
theorem strAgainF (dst text : ByteArray) (o : Opts) (L : List UInt8) (w : World) (h1 : dst.size ≤ 1000)
    (HR : ∀ B w3, AgAt w o dst text B w3 → Calls Tryd.prog 33 #[.slice (some ⟨w.heap.size + 1, 0, none⟩) dst.size (convCap (w.alloc (Obj.cells o.cells 35)) dst), .slice (some ⟨w.heap.size + 2, 0, none⟩) text.size (convCap (convWorld (w.alloc (Obj.cells o.cells 35)) dst) text), .pointer (some ⟨B, 0, none⟩)] w3 (RefFail w3.heap.size (some (w.heap.size + 1, 0)) (.slice (some ⟨w.heap.size + 1, 0, none⟩) dst.size (convCap (w.alloc (Obj.cells o.cells 35)) dst)) L w3)) :
    Calls Tryd.prog 21 #[.string dst, .string text, .agg o.cells] w (AgainNo w) := by
  have HFG : Hid (Calls Tryd.prog 34 #[.agg o.cells] (agW w o dst text) (fun e w3 => ∃ B, e = .returned (.pointer (some ⟨B, 0, none⟩)) ∧ AgAt w o dst text B w3)) := Lib.hid ((flagsS o (agW w o dst text)).mono fun e w3 ⟨B, a, hge, b, c, d⟩ => ⟨B, a, .of (by unfold maxLen; omega) hge b c d⟩)
  have HRH := Lib.hid HR
  have hcv := run_conv dst (w.alloc (Obj.cells o.cells 35))
  have hcv2 := run_conv text (convWorld (w.alloc (Obj.cells o.cells 35)) dst)
  have e0 : (w.alloc (Obj.cells o.cells 35)).heap.size = w.heap.size + 1 := by simp
  have hc1 : (convWorld (w.alloc (Obj.cells o.cells 35)) dst).heap.size = w.heap.size + 2 := by rw [conv_size, e0]
  rw [e0] at hcv
  rw [hc1] at hcv2
  have hag : convWorld (convWorld (w.alloc (Obj.cells o.cells 35)) dst) text = agW w o dst text := rfl
  rw [hag] at hcv2
  have hcl := ag_cells w o dst text
  clear HR e0 hc1 hag
  obtain ⟨du, iv, fl, it, ht, js, mu, pr, re, co, cm, ib, is, pb, ps⟩ := o
  have hcells : Opts.cells ⟨du, iv, fl, it, ht, js, mu, pr, re, co, cm, ib, is, pb, ps⟩ = #[.int .i64 du, .int .i64 iv, .int .i64 fl, .int .i64 it, .int .i64 ht, .int .i64 js, .int .i64 mu, .int .i64 pr, .int .i64 re, .int .i64 co, .int .i64 cm, .bool ib, .string is, .bool pb, .string ps] := rfl
  generalize agW w ⟨du, iv, fl, it, ht, js, mu, pr, re, co, cm, ib, is, pb, ps⟩ dst text = W2 at HFG hcv2 hcl
  rw [hcells] at HFG HRH hcv hcv2 hcl ⊢
  have k0 : W2.cell? ⟨w.heap.size, 0, none⟩ = some (.int .i64 du) := by rw [hcl]; simp [go_sem]
  have k1 : W2.cell? ⟨w.heap.size, 1, none⟩ = some (.int .i64 iv) := by rw [hcl]; simp [go_sem]
  have k2 : W2.cell? ⟨w.heap.size, 2, none⟩ = some (.int .i64 fl) := by rw [hcl]; simp [go_sem]
  have k3 : W2.cell? ⟨w.heap.size, 3, none⟩ = some (.int .i64 it) := by rw [hcl]; simp [go_sem]
  have k4 : W2.cell? ⟨w.heap.size, 4, none⟩ = some (.int .i64 ht) := by rw [hcl]; simp [go_sem]
  have k5 : W2.cell? ⟨w.heap.size, 5, none⟩ = some (.int .i64 js) := by rw [hcl]; simp [go_sem]
  have k6 : W2.cell? ⟨w.heap.size, 6, none⟩ = some (.int .i64 mu) := by rw [hcl]; simp [go_sem]
  have k7 : W2.cell? ⟨w.heap.size, 7, none⟩ = some (.int .i64 pr) := by rw [hcl]; simp [go_sem]
  have k8 : W2.cell? ⟨w.heap.size, 8, none⟩ = some (.int .i64 re) := by rw [hcl]; simp [go_sem]
  have k9 : W2.cell? ⟨w.heap.size, 9, none⟩ = some (.int .i64 co) := by rw [hcl]; simp [go_sem]
  have k10 : W2.cell? ⟨w.heap.size, 10, none⟩ = some (.int .i64 cm) := by rw [hcl]; simp [go_sem]
  have k11 : W2.cell? ⟨w.heap.size, 11, none⟩ = some (.bool ib) := by rw [hcl]; simp [go_sem]
  have k12 : W2.cell? ⟨w.heap.size, 12, none⟩ = some (.string is) := by rw [hcl]; simp [go_sem]
  have k13 : W2.cell? ⟨w.heap.size, 13, none⟩ = some (.bool pb) := by rw [hcl]; simp [go_sem]
  have k14 : W2.cell? ⟨w.heap.size, 14, none⟩ = some (.string ps) := by rw [hcl]; simp [go_sem]
  have HFIN : Hid (∀ w3 w4, w.heap.size + 3 ≤ w3.heap.size → Below w.heap.size w w3 → Fr w3.heap.size (some (w.heap.size + 1, 0)) w3 w4 → Below w.heap.size w w4) := Lib.hid fun w3 w4 a b f =>
    ⟨f.os.trans b.os, f.tape.trans b.tape, f.output.trans b.output, Nat.le_trans b.size f.size, fun k hk => (f.block k (by omega) (fun o e => by injection e with e; injection e with e1 e2; omega)).trans (b.block k hk)⟩
  clear hcl hcells
  generalize convWorld (w.alloc (Obj.cells #[Value.int .i64 du, .int .i64 iv, .int .i64 fl, .int .i64 it, .int .i64 ht, .int .i64 js, .int .i64 mu, .int .i64 pr, .int .i64 re, .int .i64 co, .int .i64 cm, .bool ib, .string is, .bool pb, .string ps] 35)) dst = W1 at hcv hcv2 HRH
  generalize convCap (w.alloc (Obj.cells #[Value.int .i64 du, .int .i64 iv, .int .i64 fl, .int .i64 it, .int .i64 ht, .int .i64 js, .int .i64 mu, .int .i64 pr, .int .i64 re, .int .i64 co, .int .i64 cm, .bool ib, .string is, .bool pb, .string ps] 35)) dst = cA at hcv HRH
  generalize convCap W1 text = cB at hcv2 HRH
  go_enter Tryd.func21, Tryd.ntmps21
  go_wp2_with fail
  refine HFG.out.mono ?_
  rintro e w3 ⟨B, rfl, hag⟩
  have HRF := Lib.hid (HRH.out B w3 hag)
  have HX := Lib.hid fun w4 => HFIN.out w3 w4 hag.size hag.below
  clear HFG HRH HFIN hag k0 k1 k2 k3 k4 k5 k6 k7 k8 k9 k10 k11 k12 k13 k14 hcv hcv2
  go_wp2_with fail
  refine HRF.out.mono ?_
  rintro e w4 ⟨z, er, rfl, ⟨te, pe, rfl⟩, hb4, hf4⟩
  have htx := fun k => (hb4.drewN k).text
  have HZ := Lib.hid (HX.out w4 hf4)
  clear HRF HX hb4 hf4
  go_wp2
  go_quiet (fail)
  go_wp2
  go_ret3
  exact ⟨⟨_, _, rfl⟩, ⟨HZ.out.os, HZ.out.tape, HZ.out.output, HZ.out.size, HZ.out.block⟩⟩
end Go.Proofs.YtldcoaigecnpfaaDoor
