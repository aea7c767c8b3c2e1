/- jsonwire.ReformatString where the string is kept as it stands, walked; and impl.StringAgain over it. -/
import Derived.Test.YtldcoaigecnpfaaDoorGConsS
import Derived.Test.YtldcoaigecnpfaaDoorGOptFlags
import Derived.Test.YtldcoaigecnpfaaDoorGAppendQuote
namespace Go.Proofs.YtldcoaigecnpfaaDoor
open Go.RowKit
theorem isCanon (f : Nat) (hf : f ≤ 3) (b : Bool) (hb : b = decide (f < 2)) (w : World) : Calls Tryd.prog 53 #[.int .u64 f] w fun e w' => e = .returned (.bool b) ∧ w' = w := by
  subst hb
  have hx : f = 0 ∨ f = 1 ∨ f = 2 ∨ f = 3 := by omega
  rcases hx with rfl | rfl | rfl | rfl
  all_goals
    go_enter Tryd.func53, Tryd.ntmps53
    go_wp2
    go_ret
    exact ⟨rfl, rfl⟩
theorem below_grown {w a b : World} (h : Below w.heap.size w a) (g : a.grownBy b (some w.heap.size)) : Below w.heap.size w b :=
  ⟨g.os.trans h.os, g.tape.trans h.tape, g.output.trans h.output, Nat.le_trans h.size g.size, fun k hk => (g.block k (Nat.lt_of_lt_of_le hk h.size) (fun e => by have := Option.some.inj e; omega)).trans (h.block k hk)⟩
/-- A string is written anew. -/
def RefPost (base : Nat) (G : Option (Nat × Nat)) (L : List UInt8) (n : Nat) (w : World) (e : Ending) (w' : World) : Prop := ∃ v', e = .returned (.tuple #[v', .int .i64 n, .nilIface]) ∧ Buf w' base G v' L ∧ Fr base G w w'
theorem flB (v m : Int) (r : Bool) (h : flagB v m = r) (p : Int) (w : World) : Calls Tryd.prog 52 #[.agg #[.int .u64 p, .int .u64 v], .int .u64 m] w (GetPost r w) := by rw [← h]; exact getFlag p v m w
set_option maxRecDepth 100000 in
set_option maxHeartbeats 8000000 in
theorem reformKeep (base : Nat) (G : Option (Nat × Nat)) (v : Value) (l0 : List UInt8) (g cap e F : Nat) (lo : Bool) (T : List UInt8) (P V : Int) (E : Addr) (w : World)
    (hB : Buf w base G v l0) (hm : BytesAt w g 0 T) (hcap : T.length ≤ cap) (hnb : T.length ≤ 1000000) (hsz : l0.length ≤ 1000000) (hbase : base ≤ w.heap.size) (hG : ∀ g o, G = some (g, o) → g < base)
    (hg : g < base) (hT : Tabs w E) (hGB : GB ≤ base) (hF : F < base)
    (hF0 : w.cell? ⟨F, 0, none⟩ = some (.int .u64 P)) (hF1 : w.cell? ⟨F, 1, none⟩ = some (.int .u64 V)) (h4 : flagB V 4 = lo) (h1536 : flagB V 1536 = false) (h32 : flagB V 32 = true)
    (h0 : atL T 0 = 34) (he : e < T.length) (h34 : atL T e = 34) (h1 : 1 ≤ e) (hs : strN lo T 1 = e) :
    Calls Tryd.prog 33 #[v, .slice (some ⟨g, 0, none⟩) T.length cap, .pointer (some ⟨F, 0, none⟩)] w (RefPost base G (l0 ++ T.take (e + 1)) (e + 1) w) := by
  have HB : Hid (∀ W, Below w.heap.size w W → Buf W base G v l0) := Lib.hid fun W h => hB.below h hB.block
  have HM : Hid (∀ W, Below w.heap.size w W → BytesAt W g 0 T) := Lib.hid fun W h => hm.below h (by omega)
  have HC : Hid (∀ W, Below w.heap.size w W → W.cell? ⟨F, 0, none⟩ = some (.int .u64 P) ∧ W.cell? ⟨F, 1, none⟩ = some (.int .u64 V)) := Lib.hid fun W h => ⟨(World.cell?_of_block (a := ⟨F, 0, none⟩) (h.block F (by omega))).trans hF0, (World.cell?_of_block (a := ⟨F, 1, none⟩) (h.block F (by omega))).trans hF1⟩
  have HTT : Hid (∀ W, Below w.heap.size w W → Tabs W E) := Lib.hid fun W h => hT.below h (by omega)
  have HCS : Hid (∀ W, Below w.heap.size w W → w.heap.size < W.heap.size → FV W w.heap.size true → Calls Tryd.prog 51 #[.pointer (some ⟨w.heap.size, 0, none⟩), .slice (some ⟨g, 0, none⟩) T.length cap, .bool (!lo)] W (ConsPost e w.heap.size (T.take e) W)) := Lib.hid fun W hW hlt hfv =>
    consume w.heap.size g cap e lo (!lo) T W rfl (HM.out W hW) hcap hnb (HTT.out W hW).u8 h0 he h34 h1 hs hfv (by omega) (by have := hW.size; omega) (fun w' hg' => (HTT.out w' (below_grown hW hg')).u8)
  have HG4 := Lib.hid (fun W : World => flB V 4 lo h4 P W)
  have HG15 := Lib.hid (fun W : World => flB V 1536 false h1536 P W)
  have HG32 := Lib.hid (fun W : World => flB V 32 true h32 P W)
  have HSR : Hid (∀ W, Below w.heap.size w W → Src W 23 (.slice (some ⟨g, 0, none⟩) (e + 1) cap) (T.take (e + 1))) := Lib.hid fun W h => by
    have := src_part (HM.out W h) 0 (e + 1) cap (Nat.zero_le _) (by omega)
    simpa using this
  have hq1 : (e : Int) + 1 ≤ (cap : Int) := by omega
  have hq2 : ((e : Int) + 1).toNat = e + 1 := by omega
  have hq3 : (e : Int) + 1 ≤ (T.length : Int) := by omega
  have HSZ : Hid (l0.length + (T.take (e + 1)).length ≤ 140737488355328) := Lib.hid (by rw [List.length_take]; show _ ≤ _; omega)
  have HGH := Lib.hid hG
  obtain ⟨Q, hQ⟩ : ∃ Q, Q = T.take (e + 1) := ⟨_, rfl⟩
  rw [← hQ] at HSR HSZ ⊢
  have HGO := Lib.hid hbase
  obtain ⟨q0, q1⟩ := HC.out w (Below.refl _ _)
  clear hB hm hT hF0 hF1 h4 h1536 h32 h0 h34 hs hG hQ
  generalize T.length = n at *
  generalize T.take e = M at *
  go_enter Tryd.func33, Tryd.ntmps33
  obtain ⟨W1, hW1⟩ : ∃ W1, W1 = w.alloc (Obj.cells #[.int .u64 0] 96) := ⟨_, rfl⟩
  have B1 : Below w.heap.size w W1 := by rw [hW1]; exact (Below.refl _ _).alloc (Nat.le_refl _) _
  have S1 : W1.heap.size = w.heap.size + 1 := by rw [hW1]; simp
  have FV1 : FV W1 w.heap.size true := by rw [hW1]; exact ⟨⟨0, by omega, by simp [go_sem], fun _ => rfl⟩, by simp [go_sem]⟩
  obtain ⟨r0, r1⟩ := HC.out W1 B1
  rw [hW1] at r0 r1
  go_wp2_with fail
  rw [← hW1]
  refine (HG4.out _).mono ?_
  rintro e2 w2 ⟨rfl, b2⟩
  have B2 := B1.trans (b2.mono B1.size)
  have FV2 := FV1.below b2
  have HCN := Lib.hid (HCS.out w2 B2 (by have := b2.size; omega) FV2)
  clear r0 r1 hW1 HCS FV1 HG4
  go_wp2_with fail
  refine HCN.out.mono ?_
  rintro e3 w3 ⟨cn, rfl, f3, g3, _⟩
  have B3 := below_grown B2 g3
  obtain ⟨⟨fv, hfv, cv, _⟩, _⟩ := f3
  obtain ⟨r0, r1⟩ := HC.out w3 B3
  have HB3 := Lib.hid B3
  clear FV2 B2 b2 B1 S1 g3 HCN B3
  go_wp2_with fail
  refine (HG15.out _).mono ?_
  rintro e4 w4 ⟨rfl, b4⟩
  have HB4 := Lib.hid (HB3.out.trans (b4.mono HB3.out.size))
  have cv4 : w4.cell? ⟨w.heap.size, 0, none⟩ = some (.int .u64 fv) := (b4.cell (p := ⟨w.heap.size, 0, none⟩) (World.block_lt_of_cell? _ _ cv)).trans cv
  clear b4 cv r0 r1 HG15
  go_wp2_with fail
  refine (isCanon fv hfv _ rfl _).mono ?_
  rintro e5 w5 ⟨rfl, rfl⟩
  obtain ⟨r0, r1⟩ := HC.out w5 HB4.out
  have hbuf := HB.out w5 HB4.out
  have hsr := HSR.out w5 HB4.out
  have hsz4 := HB4.out.size
  by_cases hf2 : fv < 2
  · have hd : decide (fv < 2) = true := decide_eq_true hf2
    simp only [hd]
    clear hd hf2 cv4 hfv
    go_wp2_with (at_builtin; refine wpList_append_buf rfl (.tmp 49) (.tmp 52) 23 rfl base G v l0 rfl hbuf _ _ rfl hsr HSZ.out (Nat.le_trans HGO.out hsz4) HGH.out ?_)
    intro v6 w6 hb6 hg6 hf6 _
    have HB6 := Lib.hid hb6
    have HF6 := Lib.hid ((Fr.of_belowAll HB4.out HGO.out HGH.out).trans hf6)
    clear hb6 hg6 hf6
    go_wp2
    go_ret3
    exact ⟨v6, rfl, HB6.out, HF6.out⟩
  · have hd : decide (fv < 2) = false := decide_eq_false hf2
    simp only [hd]
    clear hd hf2 cv4 hfv
    go_wp2_with fail
    refine (HG32.out _).mono ?_
    rintro e6 w6 ⟨rfl, b6⟩
    have HB5 := Lib.hid (HB4.out.trans (b6.mono HB4.out.size))
    have hbuf := HB.out w6 HB5.out
    have hsr := HSR.out w6 HB5.out
    have hsz5 := HB5.out.size
    clear b6 r0 r1
    go_wp2_with (at_builtin; refine wpList_append_buf rfl (.tmp 49) (.tmp 52) 23 rfl base G v l0 rfl hbuf _ _ rfl hsr HSZ.out (Nat.le_trans HGO.out hsz5) HGH.out ?_)
    intro v6 w7 hb6 hg6 hf6 _
    have HB6 := Lib.hid hb6
    have HF6 := Lib.hid ((Fr.of_belowAll HB5.out HGO.out HGH.out).trans hf6)
    clear hb6 hg6 hf6
    go_wp2
    go_ret3
    exact ⟨v6, rfl, HB6.out, HF6.out⟩
end Go.Proofs.YtldcoaigecnpfaaDoor
