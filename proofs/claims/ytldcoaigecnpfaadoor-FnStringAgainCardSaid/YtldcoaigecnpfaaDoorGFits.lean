/- The statements' fits8 (no text has more than 1000 bytes), walked. impl.StringAgain where the string is kept as it stands, walked. -/
import Derived.Test.YtldcoaigecnpfaaDoorGClose
import Derived.Test.YtldcoaigecnpfaaDoorGReform
import Derived.Test.YtldcoaigecnpfaaDoorProg
import Derived.WalkLawsBesides
import Derived.WalkSpells
import Derived.Lib.Hide
namespace Go.Proofs.YtldcoaigecnpfaaDoor
open Go.RowKit
def okFit (s : ByteArray) : Bool := decide (s.size ≤ 1000)
set_option maxHeartbeats 1000000 in
theorem fits8 (b : Nat) (ss : List ByteArray) (cap : Nat) (w : World) (hlen : ss.length ≤ 1000) (hs : ∀ s, s ∈ ss → s.size ≤ 2147483647)
    (hc : ∀ j (h : j < ss.length), w.cell? ⟨b, j, none⟩ = some (.string ss[j])) :
    Calls Tryd.prog 12 #[.slice (some ⟨b, 0, none⟩) ss.length cap] w fun e w' => e = .returned (.bool (ss.all okFit)) ∧ w = w' := by
  have hno : ∀ j (h : j < ss.length), okFit ss[j] = false → ss.all okFit = false := fun j h q => by
    rw [List.all_eq_false]; exact ⟨ss[j], List.getElem_mem h, by rw [q]; simp⟩
  have hyes : (∀ j (h : j < ss.length), okFit ss[j] = true) → ss.all okFit = true := fun q => by
    rw [List.all_eq_true]; intro x hx; obtain ⟨j, h, rfl⟩ := List.getElem_of_mem hx; exact q j h
  generalize ss.all okFit = g at hno hyes ⊢
  have HNO := Lib.hid hno
  have HYES := Lib.hid hyes
  have HC := Lib.hid hc
  have HS := Lib.hid hs
  clear hno hyes hc hs
  obtain ⟨n, hn⟩ : ∃ n, n = ss.length := ⟨_, rfl⟩
  rw [← hn] at hlen ⊢
  have HN := Lib.hid hn
  clear hn
  go_enter Tryd.func12, Tryd.ntmps12
  go_wp2
  go_loop [7] (fun i => ∃ k : Nat, k ≤ n ∧ i = .int .i64 k ∧ Hid (∀ j (h : j < ss.length), j < k → okFit ss[j] = true)) (fun i => n - (intOf i).toNat)
  case atStart => exact ⟨0, Nat.zero_le _, rfl, fun j _ hj => absurd hj (Nat.not_lt_zero _)⟩
  case round =>
    obtain ⟨k, hk, rfl, hall⟩ := hrel
    by_cases hkn : k < n
    · have hks : k < ss.length := by rw [← HN.out]; exact hkn
      obtain ⟨s, hs⟩ : ∃ s, s = ss[k] := ⟨_, rfl⟩
      have hcell : w.cell? ⟨b, k, none⟩ = some (.string s) := by rw [hs]; exact HC.out k hks
      have hsz : s.size ≤ 2147483647 := HS.out s (by rw [hs]; exact List.getElem_mem hks)
      have hoff : ¬ s.size ≤ 1000 → okFit ss[k] = false := fun q => by rw [← hs]; unfold okFit; simpa using q
      have hon : s.size ≤ 1000 → ∀ j (h : j < ss.length), j < k + 1 → okFit ss[j] = true := fun q j h hj => by
        by_cases e : j = k
        · subst e; rw [← hs]; unfold okFit; simpa using q
        · exact hall.out j h (by omega)
      have HOFF := Lib.hid hoff
      have HON := Lib.hid hon
      clear hoff hon hs
      by_cases hlong : s.size ≤ 1000
      · go_wp2
        go_round
        case rel => exact ⟨k + 1, by omega, by go_num, HON.out hlong⟩
        case measure => simp [intOf]; omega
      · go_wp2
        go_ret
        exact ⟨ret_bool (HNO.out k hks (HOFF.out hlong)).symm, rfl⟩
    · go_wp2
      go_ret
      exact ⟨ret_bool (HYES.out fun j h => hall.out j h (by have := HN.out; omega)).symm, rfl⟩
theorem fit2 (p q : ByteArray) (w : World) (hp : p.size ≤ 2147483647) (hq : q.size ≤ 2147483647) :
    Calls Tryd.prog 12 #[.slice (some ⟨w.heap.size, 0, none⟩) 2 2] (w.alloc (Obj.cells #[.string p, .string q] 9)) fun e w' => e = .returned (.bool (okFit p && okFit q)) ∧ w.alloc (Obj.cells #[.string p, .string q] 9) = w' := by
  have := fits8 w.heap.size [p, q] 2 (w.alloc (Obj.cells #[.string p, .string q] 9)) (by simp) (fun s hs => by simp at hs; rcases hs with rfl | rfl <;> assumption) (fun j h => by
    match j, h with
    | 0, _ => simp
    | 1, _ => simp)
  have e : [p, q].all okFit = (okFit p && okFit q) := by simp
  rw [e] at this
  exact this
end Go.Proofs.YtldcoaigecnpfaaDoor
namespace Go.Proofs.YtldcoaigecnpfaaDoor
open Go.RowKit
theorem convCap_leA (w : World) (s : ByteArray) (h : s.size ≤ maxLen) : convCap w s ≤ maxLen := grownCap_le_maxLen _ _ _ _ h
theorem convCap_geA (w : World) (s : ByteArray) : s.size ≤ convCap w s := grownCap_ge _ _ _ _
/-- The world in which StringAgain asks for the flags. -/
def agW (w : World) (o : Opts) (dst text : ByteArray) : World := convWorld (convWorld (w.alloc (Obj.cells o.cells 35)) dst) text
theorem agW_size (w : World) (o : Opts) (dst text : ByteArray) : (agW w o dst text).heap.size = w.heap.size + 3 := by unfold agW; rw [conv_size, conv_size]; simp
theorem agW_below (w : World) (o : Opts) (dst text : ByteArray) : Below (w.heap.size + 1) (w.alloc (Obj.cells o.cells 35)) (agW w o dst text) := by
  have h1 := conv_below dst (w.alloc (Obj.cells o.cells 35))
  have h2 := conv_below text (convWorld (w.alloc (Obj.cells o.cells 35)) dst)
  have e : (w.alloc (Obj.cells o.cells 35)).heap.size = w.heap.size + 1 := by simp
  have := h1.trans (h2.mono (by rw [conv_size]; omega))
  rw [e] at this
  exact this
/-- What the conversions and the flags leave to the call that writes the string anew. -/
structure AgAt (w : World) (o : Opts) (dst text : ByteArray) (B : Nat) (w3 : World) : Prop where
  ge : w.heap.size + 3 ≤ B
  lt : B < w3.heap.size
  fl : FlAt w3 B ((o.val : Nat) : Int)
  buf : Buf w3 w3.heap.size (some (w.heap.size + 1, 0)) (.slice (some ⟨w.heap.size + 1, 0, none⟩) dst.size (convCap (w.alloc (Obj.cells o.cells 35)) dst)) dst.data.toList
  txt : BytesAt w3 (w.heap.size + 2) 0 text.data.toList
  below : Below w.heap.size w w3
  size : w.heap.size + 3 ≤ w3.heap.size
theorem AgAt.of {w : World} {o : Opts} {dst text : ByteArray} {B : Nat} {w3 : World} (hd : dst.size ≤ maxLen) (hge : (agW w o dst text).heap.size ≤ B) (hlt : B < w3.heap.size) (hf : FlAt w3 B ((o.val : Nat) : Int)) (hb : Below (agW w o dst text).heap.size (agW w o dst text) w3) : AgAt w o dst text B w3 := by
  have hs := agW_size w o dst text
  have hz := hb.size
  have e0 : (w.alloc (Obj.cells o.cells 35)).heap.size = w.heap.size + 1 := by simp
  have b1 := conv_buf dst (w.alloc (Obj.cells o.cells 35)) hd
  rw [e0] at b1
  have hc1 : (convWorld (w.alloc (Obj.cells o.cells 35)) dst).heap.size = w.heap.size + 2 := by rw [conv_size, e0]
  have b2 : Buf (agW w o dst text) (w.heap.size + 1) none _ _ := b1.below (conv_below text (convWorld (w.alloc (Obj.cells o.cells 35)) dst)) (fun g e => by simp [Value.ownBlock] at e; omega)
  have b3 : Buf w3 (w.heap.size + 1) none _ _ := b2.below hb b2.block
  have t1 := conv_bytes text (convWorld (w.alloc (Obj.cells o.cells 35)) dst)
  rw [hc1] at t1
  refine ⟨by omega, hlt, hf, b3.rebase, fun j hj => ?_, ?_, by omega⟩
  · exact (World.cell?_of_block (a := ⟨w.heap.size + 2, 0 + j, none⟩) (hb.block (w.heap.size + 2) (by omega))).trans (t1 j hj)
  · have h0 : Below w.heap.size w (w.alloc (Obj.cells o.cells 35)) := (Below.refl _ _).alloc (Nat.le_refl _) _
    exact (h0.trans ((agW_below w o dst text).mono (Nat.le_succ _))).trans (hb.mono (by omega))
theorem ag_cells (w : World) (o : Opts) (dst text : ByteArray) (j : Nat) : (agW w o dst text).cell? ⟨w.heap.size, j, none⟩ = (w.alloc (Obj.cells o.cells 35)).cell? ⟨w.heap.size, j, none⟩ :=
  World.cell?_of_block (a := ⟨w.heap.size, j, none⟩) ((agW_below w o dst text).block w.heap.size (Nat.lt_succ_self _))
/-- What StringAgain answers where the string is taken. -/
def AgainPost (S : ByteArray) (n : Nat) (w : World) (e : Ending) (w' : World) : Prop := e = .returned (.tuple #[.string S, .int .i64 n, .bool true]) ∧ Below w.heap.size w w'
set_option maxRecDepth 100000 in
set_option maxHeartbeats 4000000 in
theorem strAgain (dst text : ByteArray) (o : Opts) (L : List UInt8) (n : Nat) (w : World) (h1 : dst.size ≤ 1000)
    (HR : ∀ B w3, AgAt w o dst text B w3 → Calls Tryd.prog 33 #[.slice (some ⟨w.heap.size + 1, 0, none⟩) dst.size (convCap (w.alloc (Obj.cells o.cells 35)) dst), .slice (some ⟨w.heap.size + 2, 0, none⟩) text.size (convCap (convWorld (w.alloc (Obj.cells o.cells 35)) dst) text), .pointer (some ⟨B, 0, none⟩)] w3 (RefPost w3.heap.size (some (w.heap.size + 1, 0)) L n w3)) :
    Calls Tryd.prog 21 #[.string dst, .string text, .agg o.cells] w (AgainPost ⟨L.toArray⟩ n w) := by
  have HFG : Hid (Calls Tryd.prog 34 #[.agg o.cells] (agW w o dst text) (fun e w3 => ∃ B, e = .returned (.pointer (some ⟨B, 0, none⟩)) ∧ AgAt w o dst text B w3)) := Lib.hid ((flagsS o (agW w o dst text)).mono fun e w3 ⟨B, a, hge, b, c, d⟩ => ⟨B, a, .of (by unfold maxLen; omega) hge b c d⟩)
  have HRH := Lib.hid HR
  have hcv := run_conv dst (w.alloc (Obj.cells o.cells 35))
  have hcv2 := run_conv text (convWorld (w.alloc (Obj.cells o.cells 35)) dst)
  have e0 : (w.alloc (Obj.cells o.cells 35)).heap.size = w.heap.size + 1 := by simp
  have hc1 : (convWorld (w.alloc (Obj.cells o.cells 35)) dst).heap.size = w.heap.size + 2 := by rw [conv_size, e0]
  rw [e0] at hcv
  rw [hc1] at hcv2
  have hag : convWorld (convWorld (w.alloc (Obj.cells o.cells 35)) dst) text = agW w o dst text := rfl
  rw [hag] at hcv2
  have hcl := ag_cells w o dst text
  clear HR e0 hc1 hag
  obtain ⟨du, iv, fl, it, ht, js, mu, pr, re, co, cm, ib, is, pb, ps⟩ := o
  have hcells : Opts.cells ⟨du, iv, fl, it, ht, js, mu, pr, re, co, cm, ib, is, pb, ps⟩ = #[.int .i64 du, .int .i64 iv, .int .i64 fl, .int .i64 it, .int .i64 ht, .int .i64 js, .int .i64 mu, .int .i64 pr, .int .i64 re, .int .i64 co, .int .i64 cm, .bool ib, .string is, .bool pb, .string ps] := rfl
  generalize agW w ⟨du, iv, fl, it, ht, js, mu, pr, re, co, cm, ib, is, pb, ps⟩ dst text = W2 at HFG hcv2 hcl
  rw [hcells] at HFG HRH hcv hcv2 hcl ⊢
  have k0 : W2.cell? ⟨w.heap.size, 0, none⟩ = some (.int .i64 du) := by rw [hcl]; simp [go_sem]
  have k1 : W2.cell? ⟨w.heap.size, 1, none⟩ = some (.int .i64 iv) := by rw [hcl]; simp [go_sem]
  have k2 : W2.cell? ⟨w.heap.size, 2, none⟩ = some (.int .i64 fl) := by rw [hcl]; simp [go_sem]
  have k3 : W2.cell? ⟨w.heap.size, 3, none⟩ = some (.int .i64 it) := by rw [hcl]; simp [go_sem]
  have k4 : W2.cell? ⟨w.heap.size, 4, none⟩ = some (.int .i64 ht) := by rw [hcl]; simp [go_sem]
  have k5 : W2.cell? ⟨w.heap.size, 5, none⟩ = some (.int .i64 js) := by rw [hcl]; simp [go_sem]
  have k6 : W2.cell? ⟨w.heap.size, 6, none⟩ = some (.int .i64 mu) := by rw [hcl]; simp [go_sem]
  have k7 : W2.cell? ⟨w.heap.size, 7, none⟩ = some (.int .i64 pr) := by rw [hcl]; simp [go_sem]
  have k8 : W2.cell? ⟨w.heap.size, 8, none⟩ = some (.int .i64 re) := by rw [hcl]; simp [go_sem]
  have k9 : W2.cell? ⟨w.heap.size, 9, none⟩ = some (.int .i64 co) := by rw [hcl]; simp [go_sem]
  have k10 : W2.cell? ⟨w.heap.size, 10, none⟩ = some (.int .i64 cm) := by rw [hcl]; simp [go_sem]
  have k11 : W2.cell? ⟨w.heap.size, 11, none⟩ = some (.bool ib) := by rw [hcl]; simp [go_sem]
  have k12 : W2.cell? ⟨w.heap.size, 12, none⟩ = some (.string is) := by rw [hcl]; simp [go_sem]
  have k13 : W2.cell? ⟨w.heap.size, 13, none⟩ = some (.bool pb) := by rw [hcl]; simp [go_sem]
  have k14 : W2.cell? ⟨w.heap.size, 14, none⟩ = some (.string ps) := by rw [hcl]; simp [go_sem]
  have HFIN : Hid (∀ w3 w4, w.heap.size + 3 ≤ w3.heap.size → Below w.heap.size w w3 → Fr w3.heap.size (some (w.heap.size + 1, 0)) w3 w4 → Below w.heap.size w w4) := Lib.hid fun w3 w4 a b f =>
    ⟨f.os.trans b.os, f.tape.trans b.tape, f.output.trans b.output, Nat.le_trans b.size f.size, fun k hk => (f.block k (by omega) (fun o e => by injection e with e; injection e with e1 e2; omega)).trans (b.block k hk)⟩
  clear hcl hcells
  generalize convWorld (w.alloc (Obj.cells #[Value.int .i64 du, .int .i64 iv, .int .i64 fl, .int .i64 it, .int .i64 ht, .int .i64 js, .int .i64 mu, .int .i64 pr, .int .i64 re, .int .i64 co, .int .i64 cm, .bool ib, .string is, .bool pb, .string ps] 35)) dst = W1 at hcv hcv2 HRH
  generalize convCap (w.alloc (Obj.cells #[Value.int .i64 du, .int .i64 iv, .int .i64 fl, .int .i64 it, .int .i64 ht, .int .i64 js, .int .i64 mu, .int .i64 pr, .int .i64 re, .int .i64 co, .int .i64 cm, .bool ib, .string is, .bool pb, .string ps] 35)) dst = cA at hcv HRH
  generalize convCap W1 text = cB at hcv2 HRH
  go_enter Tryd.func21, Tryd.ntmps21
  go_wp2_with fail
  refine HFG.out.mono ?_
  rintro e w3 ⟨B, rfl, hag⟩
  have HRF := Lib.hid (HRH.out B w3 hag)
  have HX := Lib.hid fun w4 => HFIN.out w3 w4 hag.size hag.below
  clear HFG HRH HFIN hag k0 k1 k2 k3 k4 k5 k6 k7 k8 k9 k10 k11 k12 k13 k14 hcv hcv2
  go_wp2_with fail
  refine HRF.out.mono ?_
  rintro e w4 ⟨v', rfl, hb4, hf4⟩
  have htx := fun k => (hb4.drewN k).text
  have HZ := Lib.hid (HX.out w4 hf4)
  clear HRF HX hb4 hf4
  go_wp2
  go_quiet (fail)
  go_wp2
  go_ret3
  exact ⟨rfl, ⟨HZ.out.os, HZ.out.tape, HZ.out.output, HZ.out.size, HZ.out.block⟩⟩
end Go.Proofs.YtldcoaigecnpfaaDoor
