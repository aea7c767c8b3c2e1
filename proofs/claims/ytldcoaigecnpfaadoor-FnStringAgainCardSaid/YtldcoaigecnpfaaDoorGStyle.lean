/- The reference's StyleOf, walked. -/
import Derived.Test.YtldcoaigecnpfaaDoorGStyB
import Derived.Deep.RegionHeld3
import Derived.Deep.DrawnRows
namespace Go.Proofs.YtldcoaigecnpfaaDoor
open Go.RowKit
attribute [local go_sem ↓] Go.wp_at_zero Go.wp_at_succ
set_option maxRecDepth 100000 in
set_option maxHeartbeats 8000000 in
theorem styleOf (o : Opts) (mh mj kp : Bool) (hh : mh = decide (o.ht = 1)) (hj : mj = decide (o.js = 1)) (hk : kp = decide (o.pr = 1)) (h1 : o.is.size ≤ 140737488355328) (h2 : o.ps.size ≤ 140737488355328) (w : World) :
    Calls Tryd.prog 35 #[.agg o.cells] w (StylePost mh mj kp w) := by
  have HR := Lib.hid (fun W => rulesOf o W)
  obtain ⟨du, iv, fl, it, ht, js, mu, pr, re, co, cm, ib, is, pb, ps⟩ := o
  have hcells : Opts.cells ⟨du, iv, fl, it, ht, js, mu, pr, re, co, cm, ib, is, pb, ps⟩ = #[.int .i64 du, .int .i64 iv, .int .i64 fl, .int .i64 it, .int .i64 ht, .int .i64 js, .int .i64 mu, .int .i64 pr, .int .i64 re, .int .i64 co, .int .i64 cm, .bool ib, .string is, .bool pb, .string ps] := rfl
  rw [hcells] at HR ⊢
  simp only at hh hj hk h1 h2
  have e1 : (ht == 1) = mh := by rw [hh]; exact Bool.eq_iff_iff.2 (by simp)
  have e2 : (js == 1) = mj := by rw [hj]; exact Bool.eq_iff_iff.2 (by simp)
  have e3 : (pr == 1) = kp := by rw [hk]; exact Bool.eq_iff_iff.2 (by simp)
  clear hcells hh hj hk
  go_enter Tryd.func35, Tryd.ntmps35
  obtain ⟨W2, hW2⟩ : ∃ W2, W2 = (w.alloc (Obj.cells #[.int .i64 du, .int .i64 iv, .int .i64 fl, .int .i64 it, .int .i64 ht, .int .i64 js, .int .i64 mu, .int .i64 pr, .int .i64 re, .int .i64 co, .int .i64 cm, .bool ib, .string is, .bool pb, .string ps] 35)).alloc (Obj.cells #[.bool false, .bool false, .bool false, .bool false, .bool false, .bool false, .bool false, .bool false, .bool false, .bool false, .bool false, .string ⟨#[]⟩, .string ⟨#[]⟩] 65) := ⟨_, rfl⟩
  have k0 : W2.cell? ⟨w.heap.size, 0, none⟩ = some (.int .i64 du) := by rw [hW2]; simp [go_sem]
  have k1 : W2.cell? ⟨w.heap.size, 1, none⟩ = some (.int .i64 iv) := by rw [hW2]; simp [go_sem]
  have k2 : W2.cell? ⟨w.heap.size, 2, none⟩ = some (.int .i64 fl) := by rw [hW2]; simp [go_sem]
  have k3 : W2.cell? ⟨w.heap.size, 3, none⟩ = some (.int .i64 it) := by rw [hW2]; simp [go_sem]
  have k4 : W2.cell? ⟨w.heap.size, 4, none⟩ = some (.int .i64 ht) := by rw [hW2]; simp [go_sem]
  have k5 : W2.cell? ⟨w.heap.size, 5, none⟩ = some (.int .i64 js) := by rw [hW2]; simp [go_sem]
  have k6 : W2.cell? ⟨w.heap.size, 6, none⟩ = some (.int .i64 mu) := by rw [hW2]; simp [go_sem]
  have k7 : W2.cell? ⟨w.heap.size, 7, none⟩ = some (.int .i64 pr) := by rw [hW2]; simp [go_sem]
  have k8 : W2.cell? ⟨w.heap.size, 8, none⟩ = some (.int .i64 re) := by rw [hW2]; simp [go_sem]
  have k9 : W2.cell? ⟨w.heap.size, 9, none⟩ = some (.int .i64 co) := by rw [hW2]; simp [go_sem]
  have k10 : W2.cell? ⟨w.heap.size, 10, none⟩ = some (.int .i64 cm) := by rw [hW2]; simp [go_sem]
  have k11 : W2.cell? ⟨w.heap.size, 11, none⟩ = some (.bool ib) := by rw [hW2]; simp [go_sem]
  have k12 : W2.cell? ⟨w.heap.size, 12, none⟩ = some (.string is) := by rw [hW2]; simp [go_sem]
  have k13 : W2.cell? ⟨w.heap.size, 13, none⟩ = some (.bool pb) := by rw [hW2]; simp [go_sem]
  have k14 : W2.cell? ⟨w.heap.size, 14, none⟩ = some (.string ps) := by rw [hW2]; simp [go_sem]
  have HK : Hid (∀ wx, Below W2.heap.size W2 wx → wx.cell? ⟨w.heap.size, 0, none⟩ = some (.int .i64 du) ∧ wx.cell? ⟨w.heap.size, 1, none⟩ = some (.int .i64 iv) ∧ wx.cell? ⟨w.heap.size, 2, none⟩ = some (.int .i64 fl) ∧ wx.cell? ⟨w.heap.size, 3, none⟩ = some (.int .i64 it) ∧ wx.cell? ⟨w.heap.size, 4, none⟩ = some (.int .i64 ht) ∧ wx.cell? ⟨w.heap.size, 5, none⟩ = some (.int .i64 js) ∧ wx.cell? ⟨w.heap.size, 6, none⟩ = some (.int .i64 mu) ∧ wx.cell? ⟨w.heap.size, 7, none⟩ = some (.int .i64 pr) ∧ wx.cell? ⟨w.heap.size, 8, none⟩ = some (.int .i64 re) ∧ wx.cell? ⟨w.heap.size, 9, none⟩ = some (.int .i64 co) ∧ wx.cell? ⟨w.heap.size, 10, none⟩ = some (.int .i64 cm) ∧ wx.cell? ⟨w.heap.size, 11, none⟩ = some (.bool ib) ∧ wx.cell? ⟨w.heap.size, 12, none⟩ = some (.string is) ∧ wx.cell? ⟨w.heap.size, 13, none⟩ = some (.bool pb) ∧ wx.cell? ⟨w.heap.size, 14, none⟩ = some (.string ps)) := Lib.hid fun wx hb => by
    have hlt : w.heap.size < W2.heap.size := by rw [hW2]; simp; omega
    exact ⟨(hb.cell (p := ⟨w.heap.size, 0, none⟩) hlt).trans k0, (hb.cell (p := ⟨w.heap.size, 1, none⟩) hlt).trans k1, (hb.cell (p := ⟨w.heap.size, 2, none⟩) hlt).trans k2, (hb.cell (p := ⟨w.heap.size, 3, none⟩) hlt).trans k3, (hb.cell (p := ⟨w.heap.size, 4, none⟩) hlt).trans k4, (hb.cell (p := ⟨w.heap.size, 5, none⟩) hlt).trans k5, (hb.cell (p := ⟨w.heap.size, 6, none⟩) hlt).trans k6, (hb.cell (p := ⟨w.heap.size, 7, none⟩) hlt).trans k7, (hb.cell (p := ⟨w.heap.size, 8, none⟩) hlt).trans k8, (hb.cell (p := ⟨w.heap.size, 9, none⟩) hlt).trans k9, (hb.cell (p := ⟨w.heap.size, 10, none⟩) hlt).trans k10, (hb.cell (p := ⟨w.heap.size, 11, none⟩) hlt).trans k11, (hb.cell (p := ⟨w.heap.size, 12, none⟩) hlt).trans k12, (hb.cell (p := ⟨w.heap.size, 13, none⟩) hlt).trans k13, (hb.cell (p := ⟨w.heap.size, 14, none⟩) hlt).trans k14⟩
  have HB2 : Hid (Below w.heap.size w W2) := Lib.hid (by rw [hW2]; exact ((Below.refl _ _).alloc (Nat.le_refl _) _).alloc (by simp) _)
  have HS2 : Hid (W2.heap.size = w.heap.size + 2) := Lib.hid (by rw [hW2]; simp)
  have HZ2 : Hid (StB W2 (w.heap.size + 1) false false false) := Lib.hid (by
    rw [hW2]
    refine ⟨⟨false, ?_⟩, ⟨false, ?_⟩, ?_, ?_, ?_, ⟨false, ?_⟩, ⟨false, ?_⟩, ⟨false, ?_⟩, ⟨false, ?_⟩, ⟨false, ?_⟩, ⟨false, ?_⟩, ⟨⟨#[]⟩, ?_, by decide⟩, ⟨⟨#[]⟩, ?_, by decide⟩, fun j hj => ?_⟩
    all_goals simp [go_sem])
  go_wp2_with fail
  rw [← hW2]
  have HW2 := Lib.hid hW2
  have hl0 : w.heap.size < W2.heap.size := by have := HS2.out; omega
  have hl3 : ¬ w.heap.size = W2.heap.size := by omega
  have hl4 : ¬ W2.heap.size = w.heap.size := by omega
  clear hW2
  go_upto_region 2 with fail
  go_cut [4] (fun b4 wx => ∃ B : Nat, b4 = .pointer (some ⟨B, 0, none⟩) ∧ Hid (StAll w wx #[.int .i64 du, .int .i64 iv, .int .i64 fl, .int .i64 it, .int .i64 ht, .int .i64 js, .int .i64 mu, .int .i64 pr, .int .i64 re, .int .i64 co, .int .i64 cm, .bool ib, .string is, .bool pb, .string ps] B mh mj kp))
  case first =>
    go_region_held3 (fun w' => w'.cell? ⟨w.heap.size, 0, none⟩ = some (.int .i64 du) ∧ w'.cell? ⟨w.heap.size, 1, none⟩ = some (.int .i64 iv) ∧ w'.cell? ⟨w.heap.size, 2, none⟩ = some (.int .i64 fl) ∧ w'.cell? ⟨w.heap.size, 3, none⟩ = some (.int .i64 it) ∧ w'.cell? ⟨w.heap.size, 4, none⟩ = some (.int .i64 ht) ∧ w'.cell? ⟨w.heap.size, 5, none⟩ = some (.int .i64 js) ∧ w'.cell? ⟨w.heap.size, 6, none⟩ = some (.int .i64 mu) ∧ w'.cell? ⟨w.heap.size, 7, none⟩ = some (.int .i64 pr) ∧ w'.cell? ⟨w.heap.size, 8, none⟩ = some (.int .i64 re) ∧ w'.cell? ⟨w.heap.size, 9, none⟩ = some (.int .i64 co) ∧ w'.cell? ⟨w.heap.size, 10, none⟩ = some (.int .i64 cm) ∧ w'.cell? ⟨w.heap.size, 11, none⟩ = some (.bool ib) ∧ w'.cell? ⟨w.heap.size, 12, none⟩ = some (.string is) ∧ w'.cell? ⟨w.heap.size, 13, none⟩ = some (.bool pb) ∧ w'.cell? ⟨w.heap.size, 14, none⟩ = some (.string ps)) (go_keep) ((go_at_call 57; refine (HR.out _).mono ?_; rintro e w1 ⟨⟨ra, rb, rfl⟩, hb1⟩; first
      | (have hbx : Below W2.heap.size W2 w1 := ⟨hb1.os, hb1.tape, hb1.output, hb1.size, hb1.block⟩; have hkk := HK.out w1 hbx; clear k0 k1 k2 k3 k4 k5 k6 k7 k8 k9 k10 k11 k12 k13 k14; obtain ⟨k0, k1, k2, k3, k4, k5, k6, k7, k8, k9, k10, k11, k12, k13, k14⟩ := hkk; have HB1 := Lib.hid hbx; have hl1 : w.heap.size < w1.heap.size := (by have := hbx.size; have := HS2.out; omega); have hl2 : ¬ w.heap.size = w1.heap.size := (by omega); clear hb1 hbx)
      | (have hbx : Below W2.heap.size W2 w1 := ((Below.refl W2.heap.size W2).alloc (Nat.le_refl _) _).trans ⟨hb1.os, hb1.tape, hb1.output, hb1.size, fun k hk => hb1.block k (Nat.lt_trans hk (by simp))⟩; have hkk := HK.out w1 hbx; clear k0 k1 k2 k3 k4 k5 k6 k7 k8 k9 k10 k11 k12 k13 k14; obtain ⟨k0, k1, k2, k3, k4, k5, k6, k7, k8, k9, k10, k11, k12, k13, k14⟩ := hkk; have HB1 := Lib.hid hbx; have z0 : w1.cell? ⟨W2.heap.size, 0, none⟩ = some (.bool false) := (hb1.cell (p := ⟨W2.heap.size, 0, none⟩) (by simp)).trans (by simp [go_sem]); have z1 : w1.cell? ⟨W2.heap.size, 1, none⟩ = some (.bool false) := (hb1.cell (p := ⟨W2.heap.size, 1, none⟩) (by simp)).trans (by simp [go_sem]); have z2 : w1.cell? ⟨W2.heap.size, 2, none⟩ = some (.bool false) := (hb1.cell (p := ⟨W2.heap.size, 2, none⟩) (by simp)).trans (by simp [go_sem]); have z3 : w1.cell? ⟨W2.heap.size, 3, none⟩ = some (.bool false) := (hb1.cell (p := ⟨W2.heap.size, 3, none⟩) (by simp)).trans (by simp [go_sem]); have z4 : w1.cell? ⟨W2.heap.size, 4, none⟩ = some (.bool false) := (hb1.cell (p := ⟨W2.heap.size, 4, none⟩) (by simp)).trans (by simp [go_sem]); have z5 : w1.cell? ⟨W2.heap.size, 5, none⟩ = some (.bool false) := (hb1.cell (p := ⟨W2.heap.size, 5, none⟩) (by simp)).trans (by simp [go_sem]); have z6 : w1.cell? ⟨W2.heap.size, 6, none⟩ = some (.bool false) := (hb1.cell (p := ⟨W2.heap.size, 6, none⟩) (by simp)).trans (by simp [go_sem]); have z7 : w1.cell? ⟨W2.heap.size, 7, none⟩ = some (.bool false) := (hb1.cell (p := ⟨W2.heap.size, 7, none⟩) (by simp)).trans (by simp [go_sem]); have z8 : w1.cell? ⟨W2.heap.size, 8, none⟩ = some (.bool false) := (hb1.cell (p := ⟨W2.heap.size, 8, none⟩) (by simp)).trans (by simp [go_sem]); have z9 : w1.cell? ⟨W2.heap.size, 9, none⟩ = some (.bool false) := (hb1.cell (p := ⟨W2.heap.size, 9, none⟩) (by simp)).trans (by simp [go_sem]); have z10 : w1.cell? ⟨W2.heap.size, 10, none⟩ = some (.bool false) := (hb1.cell (p := ⟨W2.heap.size, 10, none⟩) (by simp)).trans (by simp [go_sem]); have z11 : w1.cell? ⟨W2.heap.size, 11, none⟩ = some (.string ⟨#[]⟩) := (hb1.cell (p := ⟨W2.heap.size, 11, none⟩) (by simp)).trans (by simp [go_sem]); have z12 : w1.cell? ⟨W2.heap.size, 12, none⟩ = some (.string ⟨#[]⟩) := (hb1.cell (p := ⟨W2.heap.size, 12, none⟩) (by simp)).trans (by simp [go_sem]); have zz : ∀ j, w1.frozen? ⟨W2.heap.size, j, none⟩ = false := (fun j => by have hq := hb1.block W2.heap.size (by simp); unfold World.frozen?; rw [hq]; exact World.frozen?_alloc_new W2 _ _ j); clear hb1 hbx)))
    · go_wp2
      go_meet
      refine ⟨w1.heap.size, rfl, Lib.hid ?_⟩
      have hb := HB1.out
      have hz := hb.size
      have hs2 := HS2.out
      refine ⟨⟨⟨ra, ?_⟩, ⟨rb, ?_⟩, ?_, ?_, ?_, ⟨false, ?_⟩, ⟨false, ?_⟩, ⟨false, ?_⟩, ⟨false, ?_⟩, ⟨false, ?_⟩, ⟨false, ?_⟩, ⟨⟨#[]⟩, ?_, by decide⟩, ⟨⟨#[]⟩, ?_, by decide⟩, fun j hj => ?_⟩, ?rs, ?op, ?nb, by omega⟩
      case rs =>
        refine HZ2.out.kept ?_
        show (w1.heap.push _)[w.heap.size + 1]? = _
        rw [Array.getElem?_push, if_neg (by omega)]
        exact hb.block _ (by omega)
      case op =>
        intro j hj
        have hq : (w1.alloc (Obj.cells #[.bool ra, .bool rb, .bool mh, .bool mj, .bool kp, .bool false, .bool false, .bool false, .bool false, .bool false, .bool false, .string ⟨#[]⟩, .string ⟨#[]⟩] 65)).cell? ⟨w.heap.size, j, none⟩ = w1.cell? ⟨w.heap.size, j, none⟩ := World.cell?_of_block (a := ⟨w.heap.size, j, none⟩) (by show (w1.heap.push _)[w.heap.size]? = _; rw [Array.getElem?_push, if_neg (by omega)])
        rw [hq]
        match j, hj with
        | 0, _ => exact k0
        | 1, _ => exact k1
        | 2, _ => exact k2
        | 3, _ => exact k3
        | 4, _ => exact k4
        | 5, _ => exact k5
        | 6, _ => exact k6
        | 7, _ => exact k7
        | 8, _ => exact k8
        | 9, _ => exact k9
        | 10, _ => exact k10
        | 11, _ => exact k11
        | 12, _ => exact k12
        | 13, _ => exact k13
        | 14, _ => exact k14
      case nb => exact (HB2.out.trans (hb.mono (by omega))).alloc (by omega) _
      all_goals simp [go_sem]
    · go_wp2
      go_meet
      refine ⟨W2.heap.size, rfl, Lib.hid ?_⟩
      have hb := HB1.out
      have hs2 := HS2.out
      have hA : StAll w w1 #[.int .i64 du, .int .i64 iv, .int .i64 fl, .int .i64 it, .int .i64 ht, .int .i64 js, .int .i64 mu, .int .i64 pr, .int .i64 re, .int .i64 co, .int .i64 cm, .bool ib, .string is, .bool pb, .string ps] W2.heap.size false false false := ⟨⟨⟨_, z0⟩, ⟨_, z1⟩, z2, z3, z4, ⟨_, z5⟩, ⟨_, z6⟩, ⟨_, z7⟩, ⟨_, z8⟩, ⟨_, z9⟩, ⟨_, z10⟩, ⟨_, z11, by decide⟩, ⟨_, z12, by decide⟩, fun j _ => zz j⟩, HZ2.out.kept (hb.block _ (by omega)), fun j hj => (match j, hj with
        | 0, _ => k0
        | 1, _ => k1
        | 2, _ => k2
        | 3, _ => k3
        | 4, _ => k4
        | 5, _ => k5
        | 6, _ => k6
        | 7, _ => k7
        | 8, _ => k8
        | 9, _ => k9
        | 10, _ => k10
        | 11, _ => k11
        | 12, _ => k12
        | 13, _ => k13
        | 14, _ => k14), HB2.out.trans (hb.mono (by omega)), by omega⟩
      exact ((((((((((((hA.set0 ra).set1 rb).set2 mh).set3 mj).set4 kp).set5 false).set6 false).set7 false).set8 false).set9 false).set10 false).set11 ⟨#[]⟩ (by decide)).set12 ⟨#[]⟩ (by decide)
  case rest =>
  clear HK HB2 HS2 HZ2 HW2 hl0 hl3 hl4 k0 k1 k2 k3 k4 k5 k6 k7 k8 k9 k10 k11 k12 k13 k14 HR
  obtain ⟨B, rfl, hS⟩ := hcut
  have nB : w.heap.size + 1 < B := hS.out.lo
  have nB1 : ¬ B = w.heap.size := by omega
  have nB2 : ¬ w.heap.size = B := by omega
  have k3 : wc.cell? ⟨w.heap.size, 3, none⟩ = some (.int .i64 it) := hS.out.op 3 (by decide)
  have k2 : wc.cell? ⟨w.heap.size, 2, none⟩ = some (.int .i64 fl) := hS.out.op 2 (by decide)
  have k8 : wc.cell? ⟨w.heap.size, 8, none⟩ = some (.int .i64 re) := hS.out.op 8 (by decide)
  obtain ⟨x5, c5⟩ := hS.out.st.c5
  obtain ⟨x6, c6⟩ := hS.out.st.c6
  obtain ⟨x7, c7⟩ := hS.out.st.c7
  have f5 : wc.frozen? ⟨B, 5, none⟩ = false := hS.out.st.nf 5 (by decide)
  have f6 : wc.frozen? ⟨B, 6, none⟩ = false := hS.out.st.nf 6 (by decide)
  have f7 : wc.frozen? ⟨B, 7, none⟩ = false := hS.out.st.nf 7 (by decide)
  go_upto_region 2 with fail
  go_cut [4] (fun b4 wx => ∃ B : Nat, b4 = .pointer (some ⟨B, 0, none⟩) ∧ Hid (StAll w wx #[.int .i64 du, .int .i64 iv, .int .i64 fl, .int .i64 it, .int .i64 ht, .int .i64 js, .int .i64 mu, .int .i64 pr, .int .i64 re, .int .i64 co, .int .i64 cm, .bool ib, .string is, .bool pb, .string ps] B mh mj kp))
  case first =>
    go_region_held3 (fun w' => w'.cell? ⟨w.heap.size, 3, none⟩ = some (.int .i64 it) ∧ w'.cell? ⟨w.heap.size, 2, none⟩ = some (.int .i64 fl) ∧ w'.cell? ⟨w.heap.size, 8, none⟩ = some (.int .i64 re)) (go_keep) (fail)
    all_goals
      go_wp2
      go_meet
      refine ⟨B, rfl, Lib.hid ?_⟩
      repeat (first | with_reducible exact hS.out | refine StAll.drew ?_ | refine StAll.set11 ?_ _ (by first | decide | assumption) | refine StAll.set12 ?_ _ (by first | decide | assumption) | refine StAll.set5 ?_ _ | refine StAll.set6 ?_ _ | refine StAll.set7 ?_ _ | refine StAll.set8 ?_ _ | refine StAll.set9 ?_ _ | refine StAll.set10 ?_ _)
  case rest =>
  clear k3 k2 k8 c5 c6 c7 f5 f6 f7 hS nB nB1 nB2
  obtain ⟨B, rfl, hS⟩ := hcut
  have nB : w.heap.size + 1 < B := hS.out.lo
  have nB1 : ¬ B = w.heap.size := by omega
  have nB2 : ¬ w.heap.size = B := by omega
  have k6 : wc.cell? ⟨w.heap.size, 6, none⟩ = some (.int .i64 mu) := hS.out.op 6 (by decide)
  have k11 : wc.cell? ⟨w.heap.size, 11, none⟩ = some (.bool ib) := hS.out.op 11 (by decide)
  have k13 : wc.cell? ⟨w.heap.size, 13, none⟩ = some (.bool pb) := hS.out.op 13 (by decide)
  obtain ⟨x8, c8⟩ := hS.out.st.c8
  have f8 : wc.frozen? ⟨B, 8, none⟩ = false := hS.out.st.nf 8 (by decide)
  go_upto_region 3 with fail
  go_cut [4] (fun b4 wx => ∃ B : Nat, b4 = .pointer (some ⟨B, 0, none⟩) ∧ Hid (StAll w wx #[.int .i64 du, .int .i64 iv, .int .i64 fl, .int .i64 it, .int .i64 ht, .int .i64 js, .int .i64 mu, .int .i64 pr, .int .i64 re, .int .i64 co, .int .i64 cm, .bool ib, .string is, .bool pb, .string ps] B mh mj kp))
  case first =>
    cases hb1 : (mu == 1) <;> cases ib <;> cases pb
    all_goals
      go_wp2
      go_meet
      refine ⟨B, rfl, Lib.hid ?_⟩
      repeat (first | with_reducible exact hS.out | refine StAll.drew ?_ | refine StAll.set11 ?_ _ (by first | decide | assumption) | refine StAll.set12 ?_ _ (by first | decide | assumption) | refine StAll.set5 ?_ _ | refine StAll.set6 ?_ _ | refine StAll.set7 ?_ _ | refine StAll.set8 ?_ _ | refine StAll.set9 ?_ _ | refine StAll.set10 ?_ _)
  case rest =>
  clear k6 k11 k13 c8 f8 hS nB nB1 nB2
  obtain ⟨B, rfl, hS⟩ := hcut
  have nB : w.heap.size + 1 < B := hS.out.lo
  have nB1 : ¬ B = w.heap.size := by omega
  have nB2 : ¬ w.heap.size = B := by omega
  have k9 : wc.cell? ⟨w.heap.size, 9, none⟩ = some (.int .i64 co) := hS.out.op 9 (by decide)
  obtain ⟨x8, c8⟩ := hS.out.st.c8
  obtain ⟨x9, c9⟩ := hS.out.st.c9
  have f9 : wc.frozen? ⟨B, 9, none⟩ = false := hS.out.st.nf 9 (by decide)
  go_upto_region 4 with fail
  go_cut [4] (fun b4 wx => ∃ B : Nat, b4 = .pointer (some ⟨B, 0, none⟩) ∧ Hid (StAll w wx #[.int .i64 du, .int .i64 iv, .int .i64 fl, .int .i64 it, .int .i64 ht, .int .i64 js, .int .i64 mu, .int .i64 pr, .int .i64 re, .int .i64 co, .int .i64 cm, .bool ib, .string is, .bool pb, .string ps] B mh mj kp))
  case first =>
    cases hb2 : (co == 1) <;> cases x8
    all_goals
      go_wp2
      go_meet
      refine ⟨B, rfl, Lib.hid ?_⟩
      repeat (first | with_reducible exact hS.out | refine StAll.drew ?_ | refine StAll.set11 ?_ _ (by first | decide | assumption) | refine StAll.set12 ?_ _ (by first | decide | assumption) | refine StAll.set5 ?_ _ | refine StAll.set6 ?_ _ | refine StAll.set7 ?_ _ | refine StAll.set8 ?_ _ | refine StAll.set9 ?_ _ | refine StAll.set10 ?_ _)
  case rest =>
  clear k9 c8 c9 f9 hS nB nB1 nB2
  obtain ⟨B, rfl, hS⟩ := hcut
  have nB : w.heap.size + 1 < B := hS.out.lo
  have nB1 : ¬ B = w.heap.size := by omega
  have nB2 : ¬ w.heap.size = B := by omega
  have k10 : wc.cell? ⟨w.heap.size, 10, none⟩ = some (.int .i64 cm) := hS.out.op 10 (by decide)
  have k11 : wc.cell? ⟨w.heap.size, 11, none⟩ = some (.bool ib) := hS.out.op 11 (by decide)
  have k12 : wc.cell? ⟨w.heap.size, 12, none⟩ = some (.string is) := hS.out.op 12 (by decide)
  obtain ⟨x10, c10⟩ := hS.out.st.c10
  obtain ⟨x11, c11, q11⟩ := hS.out.st.c11
  have f10 : wc.frozen? ⟨B, 10, none⟩ = false := hS.out.st.nf 10 (by decide)
  have f11 : wc.frozen? ⟨B, 11, none⟩ = false := hS.out.st.nf 11 (by decide)
  go_upto_if 61 with fail
  go_cut [4] (fun b4 wx => ∃ B : Nat, b4 = .pointer (some ⟨B, 0, none⟩) ∧ Hid (StAll w wx #[.int .i64 du, .int .i64 iv, .int .i64 fl, .int .i64 it, .int .i64 ht, .int .i64 js, .int .i64 mu, .int .i64 pr, .int .i64 re, .int .i64 co, .int .i64 cm, .bool ib, .string is, .bool pb, .string ps] B mh mj kp))
  case first =>
    cases ib
    all_goals
      go_wp2
      go_meet
      refine ⟨B, rfl, Lib.hid ?_⟩
      repeat (first | with_reducible exact hS.out | refine StAll.drew ?_ | refine StAll.set11 ?_ _ (by first | decide | assumption) | refine StAll.set12 ?_ _ (by first | decide | assumption) | refine StAll.set5 ?_ _ | refine StAll.set6 ?_ _ | refine StAll.set7 ?_ _ | refine StAll.set8 ?_ _ | refine StAll.set9 ?_ _ | refine StAll.set10 ?_ _)
  case rest =>
  clear k10 k11 k12 c10 c11 q11 f10 f11 hS nB nB1 nB2
  obtain ⟨B, rfl, hS⟩ := hcut
  have nB : w.heap.size + 1 < B := hS.out.lo
  have nB1 : ¬ B = w.heap.size := by omega
  have nB2 : ¬ w.heap.size = B := by omega
  have k13 : wc.cell? ⟨w.heap.size, 13, none⟩ = some (.bool pb) := hS.out.op 13 (by decide)
  have k14 : wc.cell? ⟨w.heap.size, 14, none⟩ = some (.string ps) := hS.out.op 14 (by decide)
  obtain ⟨x12, c12, q12⟩ := hS.out.st.c12
  have f12 : wc.frozen? ⟨B, 12, none⟩ = false := hS.out.st.nf 12 (by decide)
  go_upto_if 66 with fail
  go_cut [4] (fun b4 wx => ∃ B : Nat, b4 = .pointer (some ⟨B, 0, none⟩) ∧ Hid (StAll w wx #[.int .i64 du, .int .i64 iv, .int .i64 fl, .int .i64 it, .int .i64 ht, .int .i64 js, .int .i64 mu, .int .i64 pr, .int .i64 re, .int .i64 co, .int .i64 cm, .bool ib, .string is, .bool pb, .string ps] B mh mj kp))
  case first =>
    cases pb
    all_goals
      go_wp2
      go_meet
      refine ⟨B, rfl, Lib.hid ?_⟩
      repeat (first | with_reducible exact hS.out | refine StAll.drew ?_ | refine StAll.set11 ?_ _ (by first | decide | assumption) | refine StAll.set12 ?_ _ (by first | decide | assumption) | refine StAll.set5 ?_ _ | refine StAll.set6 ?_ _ | refine StAll.set7 ?_ _ | refine StAll.set8 ?_ _ | refine StAll.set9 ?_ _ | refine StAll.set10 ?_ _)
  case rest =>
  clear k13 k14 c12 q12 f12 hS nB nB1 nB2
  obtain ⟨B, rfl, hS⟩ := hcut
  have nB : w.heap.size + 1 < B := hS.out.lo
  have nB1 : ¬ B = w.heap.size := by omega
  have nB2 : ¬ w.heap.size = B := by omega
  have k6 : wc.cell? ⟨w.heap.size, 6, none⟩ = some (.int .i64 mu) := hS.out.op 6 (by decide)
  obtain ⟨x0, c0⟩ := hS.out.st.c0
  obtain ⟨x1, c1⟩ := hS.out.st.c1
  have c2 := hS.out.st.c2
  have c3 := hS.out.st.c3
  have c4 := hS.out.st.c4
  obtain ⟨x5, c5⟩ := hS.out.st.c5
  obtain ⟨x6, c6⟩ := hS.out.st.c6
  obtain ⟨x7, c7⟩ := hS.out.st.c7
  obtain ⟨x8, c8⟩ := hS.out.st.c8
  obtain ⟨x9, c9⟩ := hS.out.st.c9
  obtain ⟨x10, c10⟩ := hS.out.st.c10
  obtain ⟨x11, c11, q11⟩ := hS.out.st.c11
  obtain ⟨x12, c12, q12⟩ := hS.out.st.c12
  obtain ⟨t11, ht11⟩ : ∃ t, t = blankD x11 := ⟨_, rfl⟩
  obtain ⟨t12, ht12⟩ : ∃ t, t = blankD x12 := ⟨_, rfl⟩
  have HB11 : Hid (∀ W, Calls Tryd.prog 58 #[.string x11] W fun e w' => e = .returned (.bool t11) ∧ w' = W) := Lib.hid fun W => by rw [ht11]; exact blankS x11 W q11
  have HB12 : Hid (∀ W, Calls Tryd.prog 58 #[.string x12] W fun e w' => e = .returned (.bool t12) ∧ w' = W) := Lib.hid fun W => by rw [ht12]; exact blankS x12 W q12
  clear ht11 ht12 q11 q12
  obtain ⟨y0, r0⟩ := hS.out.rs.c0
  obtain ⟨y1, r1⟩ := hS.out.rs.c1
  have r2 := hS.out.rs.c2
  have r3 := hS.out.rs.c3
  have r4 := hS.out.rs.c4
  obtain ⟨y5, r5⟩ := hS.out.rs.c5
  obtain ⟨y6, r6⟩ := hS.out.rs.c6
  obtain ⟨y7, r7⟩ := hS.out.rs.c7
  obtain ⟨y8, r8⟩ := hS.out.rs.c8
  obtain ⟨y9, r9⟩ := hS.out.rs.c9
  obtain ⟨y10, r10⟩ := hS.out.rs.c10
  obtain ⟨y11, r11, _⟩ := hS.out.rs.c11
  obtain ⟨y12, r12, _⟩ := hS.out.rs.c12
  have g0 : wc.frozen? ⟨w.heap.size + 1, 0, none⟩ = false := hS.out.rs.nf 0 (by decide)
  have g1 : wc.frozen? ⟨w.heap.size + 1, 1, none⟩ = false := hS.out.rs.nf 1 (by decide)
  have g2 : wc.frozen? ⟨w.heap.size + 1, 2, none⟩ = false := hS.out.rs.nf 2 (by decide)
  have g3 : wc.frozen? ⟨w.heap.size + 1, 3, none⟩ = false := hS.out.rs.nf 3 (by decide)
  have g4 : wc.frozen? ⟨w.heap.size + 1, 4, none⟩ = false := hS.out.rs.nf 4 (by decide)
  have g5 : wc.frozen? ⟨w.heap.size + 1, 5, none⟩ = false := hS.out.rs.nf 5 (by decide)
  have g6 : wc.frozen? ⟨w.heap.size + 1, 6, none⟩ = false := hS.out.rs.nf 6 (by decide)
  have g7 : wc.frozen? ⟨w.heap.size + 1, 7, none⟩ = false := hS.out.rs.nf 7 (by decide)
  have g8 : wc.frozen? ⟨w.heap.size + 1, 8, none⟩ = false := hS.out.rs.nf 8 (by decide)
  have g9 : wc.frozen? ⟨w.heap.size + 1, 9, none⟩ = false := hS.out.rs.nf 9 (by decide)
  have g10 : wc.frozen? ⟨w.heap.size + 1, 10, none⟩ = false := hS.out.rs.nf 10 (by decide)
  have g11 : wc.frozen? ⟨w.heap.size + 1, 11, none⟩ = false := hS.out.rs.nf 11 (by decide)
  have g12 : wc.frozen? ⟨w.heap.size + 1, 12, none⟩ = false := hS.out.rs.nf 12 (by decide)
  have nC : ¬ B = w.heap.size + 1 := by omega
  have nC2 : ¬ w.heap.size + 1 = B := by omega
  go_upto_region 11 with fail
  cases x8
  · cases t11
    · refine wp_region_noPanic ?_
      refine wp_region_held_drew (S := (fun w' => w'.cell? ⟨w.heap.size, 6, none⟩ = some (.int .i64 mu) ∧ w'.cell? ⟨B, 0, none⟩ = some (.bool x0) ∧ w'.cell? ⟨B, 1, none⟩ = some (.bool x1) ∧ w'.cell? ⟨B, 2, none⟩ = some (.bool mh) ∧ w'.cell? ⟨B, 3, none⟩ = some (.bool mj) ∧ w'.cell? ⟨B, 4, none⟩ = some (.bool kp) ∧ w'.cell? ⟨B, 5, none⟩ = some (.bool x5) ∧ w'.cell? ⟨B, 6, none⟩ = some (.bool x6) ∧ w'.cell? ⟨B, 7, none⟩ = some (.bool x7) ∧ w'.cell? ⟨B, 8, none⟩ = some (.bool false) ∧ w'.cell? ⟨B, 9, none⟩ = some (.bool x9) ∧ w'.cell? ⟨B, 10, none⟩ = some (.bool x10) ∧ w'.cell? ⟨B, 11, none⟩ = some (.string x11) ∧ w'.cell? ⟨B, 12, none⟩ = some (.string x12))) (by kernel_rfl) (by (try dsimp only); go_keep) (fun hHeld => ?_)
      refine wpAnyH_take (i := 0) (v := ?v100) rfl (by kernel_rfl) (by kernel_rfl) (by kernel_rfl) (fun _ _ _ h => h) (Or.inl ⟨by rfl, ?hy100⟩) (by assumption) ?rest100
      case hy100 => (intro w' hSw; (try dsimp only at hSw); (try simp only [List.getElem_toArray, List.getElem_cons_zero]); go_simp <;> with_reducible rfl)
      try simp only [Act.put, List.getElem_toArray, List.getElem_cons_zero, List.setIfInBounds_toArray, List.set_cons_zero, List.set_cons_succ]
      refine wpAnyH_take (i := 1) (v := ?v101) rfl (by kernel_rfl) (by kernel_rfl) (by kernel_rfl) (fun _ _ _ h => h) (Or.inl ⟨by rfl, ?hy101⟩) (by assumption) ?rest101
      case hy101 => (intro w' hSw; (try dsimp only at hSw); (try simp only [List.getElem_toArray, List.getElem_cons_succ, List.getElem_cons_zero]); go_simp <;> with_reducible rfl)
      try simp only [Act.put, List.getElem_toArray, List.getElem_cons_succ, List.getElem_cons_zero, List.setIfInBounds_toArray, List.set_cons_zero, List.set_cons_succ]
      refine wpAnyH_take (i := 2) (v := ?v102) rfl (by kernel_rfl) (by kernel_rfl) (by kernel_rfl) (fun _ _ _ h => h) (Or.inl ⟨by rfl, ?hy102⟩) (by assumption) ?rest102
      case hy102 => (intro w' hSw; (try dsimp only at hSw); (try simp only [List.getElem_toArray, List.getElem_cons_succ, List.getElem_cons_zero]); go_simp <;> with_reducible rfl)
      try simp only [Act.put, List.getElem_toArray, List.getElem_cons_succ, List.getElem_cons_zero, List.setIfInBounds_toArray, List.set_cons_zero, List.set_cons_succ]
      refine wpAnyH_take (i := 3) (v := ?v103) rfl (by kernel_rfl) (by kernel_rfl) (by kernel_rfl) (fun _ _ _ h => h) (Or.inl ⟨by rfl, ?hy103⟩) (by assumption) ?rest103
      case hy103 => (intro w' hSw; (try dsimp only at hSw); (try simp only [List.getElem_toArray, List.getElem_cons_succ, List.getElem_cons_zero]); go_simp <;> with_reducible rfl)
      try simp only [Act.put, List.getElem_toArray, List.getElem_cons_succ, List.getElem_cons_zero, List.setIfInBounds_toArray, List.set_cons_zero, List.set_cons_succ]
      refine wpAnyH_take (i := 4) (v := undef) rfl (by kernel_rfl) (by kernel_rfl) (by kernel_rfl) (fun _ _ _ h => h) (Or.inr ⟨by rfl, rfl⟩) (by assumption) ?_
      try simp only [Act.put, List.getElem_toArray, List.getElem_cons_succ, List.getElem_cons_zero, List.setIfInBounds_toArray, List.set_cons_zero, List.set_cons_succ]
      refine wpAnyH_take (i := 5) (v := undef) rfl (by kernel_rfl) (by kernel_rfl) (by kernel_rfl) (fun _ _ _ h => h) (Or.inr ⟨by rfl, rfl⟩) (by assumption) ?_
      try simp only [Act.put, List.getElem_toArray, List.getElem_cons_succ, List.getElem_cons_zero, List.setIfInBounds_toArray, List.set_cons_zero, List.set_cons_succ]
      refine wpAnyH_take (i := 6) (v := undef) rfl (by kernel_rfl) (by kernel_rfl) (by kernel_rfl) (fun _ _ _ h => h) (Or.inr ⟨by rfl, rfl⟩) (by assumption) ?_
      try simp only [Act.put, List.getElem_toArray, List.getElem_cons_succ, List.getElem_cons_zero, List.setIfInBounds_toArray, List.set_cons_zero, List.set_cons_succ]
      refine wpAnyH_take (i := 7) (v := ?v107) rfl (by kernel_rfl) (by kernel_rfl) (by kernel_rfl) (fun _ _ _ h => h) (Or.inl ⟨by rfl, ?hy107⟩) (by assumption) ?rest107
      case hy107 => (intro w' hSw; (try dsimp only at hSw); (try simp only [List.getElem_toArray, List.getElem_cons_succ, List.getElem_cons_zero]); go_simp <;> with_reducible rfl)
      try simp only [Act.put, List.getElem_toArray, List.getElem_cons_succ, List.getElem_cons_zero, List.setIfInBounds_toArray, List.set_cons_zero, List.set_cons_succ]
      refine wpAnyH_take (i := 8) (v := ?v108) rfl (by kernel_rfl) (by kernel_rfl) (by kernel_rfl) (fun _ _ _ h => h) (Or.inl ⟨by rfl, ?hy108⟩) (by assumption) ?rest108
      case hy108 => (intro w' hSw; (try dsimp only at hSw); (try simp only [List.getElem_toArray, List.getElem_cons_succ, List.getElem_cons_zero]); go_simp <;> with_reducible rfl)
      try simp only [Act.put, List.getElem_toArray, List.getElem_cons_succ, List.getElem_cons_zero, List.setIfInBounds_toArray, List.set_cons_zero, List.set_cons_succ]
      refine wpAnyH_take (i := 9) (v := ?v109) rfl (by kernel_rfl) (by kernel_rfl) (by kernel_rfl) (fun _ _ _ h => h) (Or.inl ⟨by rfl, ?hy109⟩) (by assumption) ?rest109
      case hy109 => (intro w' hSw; (try dsimp only at hSw); (try simp only [List.getElem_toArray, List.getElem_cons_succ, List.getElem_cons_zero]); go_simp <;> with_reducible rfl)
      try simp only [Act.put, List.getElem_toArray, List.getElem_cons_succ, List.getElem_cons_zero, List.setIfInBounds_toArray, List.set_cons_zero, List.set_cons_succ]
      refine wpAnyH_take (i := 10) (v := ?v110) rfl (by kernel_rfl) (by kernel_rfl) (by kernel_rfl) (fun _ _ _ h => h) (Or.inl ⟨by rfl, ?hy110⟩) (by assumption) ?rest110
      case hy110 => (intro w' hSw; (try dsimp only at hSw); (try simp only [List.getElem_toArray, List.getElem_cons_succ, List.getElem_cons_zero]); go_simp <;> with_reducible rfl)
      try simp only [Act.put, List.getElem_toArray, List.getElem_cons_succ, List.getElem_cons_zero, List.setIfInBounds_toArray, List.set_cons_zero, List.set_cons_succ]
      refine wpAnyH_take (i := 11) (v := ?v111) rfl (by kernel_rfl) (by kernel_rfl) (by kernel_rfl) (fun _ _ _ h => h) (Or.inl ⟨by rfl, ?hy111⟩) (by assumption) ?rest111
      case hy111 => (intro w' hSw; (try dsimp only at hSw); (try simp only [List.getElem_toArray, List.getElem_cons_succ, List.getElem_cons_zero]); go_simp <;> with_reducible rfl)
      try simp only [Act.put, List.getElem_toArray, List.getElem_cons_succ, List.getElem_cons_zero, List.setIfInBounds_toArray, List.set_cons_zero, List.set_cons_succ]
      refine wpAnyH_ready (rs := [12]) (by kernel_rfl) (by simp) ?_
      refine AllReadyH.cons rfl (fun K hK => ?_) AllReadyH.nil
      go_simp
      refine (HB11.out _).mono ?_
      rintro e w2 ⟨rfl, rfl⟩
      go_wp2_with fail
      refine hK.out _ _ (by (try dsimp only); go_keep) (fun hHeld => ?_)
      clear hK K
      try simp only [Act.put, List.getElem_toArray, List.getElem_cons_succ, List.getElem_cons_zero, List.setIfInBounds_toArray, List.set_cons_zero, List.set_cons_succ]
      refine wpAnyH_take (i := 13) (v := ?v113) rfl (by kernel_rfl) (by kernel_rfl) (by kernel_rfl) (fun _ _ _ h => h) (Or.inl ⟨by rfl, ?hy113⟩) (by assumption) ?rest113
      case hy113 => (intro w' hSw; (try dsimp only at hSw); (try simp only [List.getElem_toArray, List.getElem_cons_succ, List.getElem_cons_zero]); go_simp <;> with_reducible rfl)
      try simp only [Act.put, List.getElem_toArray, List.getElem_cons_succ, List.getElem_cons_zero, List.setIfInBounds_toArray, List.set_cons_zero, List.set_cons_succ]
      refine wpAnyH_take (i := 14) (v := ?v114) rfl (by kernel_rfl) (by kernel_rfl) (by kernel_rfl) (fun _ _ _ h => h) (Or.inl ⟨by rfl, ?hy114⟩) (by assumption) ?rest114
      case hy114 => (intro w' hSw; (try dsimp only at hSw); (try simp only [List.getElem_toArray, List.getElem_cons_succ, List.getElem_cons_zero]); go_simp <;> with_reducible rfl)
      try simp only [Act.put, List.getElem_toArray, List.getElem_cons_succ, List.getElem_cons_zero, List.setIfInBounds_toArray, List.set_cons_zero, List.set_cons_succ]
      refine wpAnyH_take (i := 15) (v := undef) rfl (by kernel_rfl) (by kernel_rfl) (by kernel_rfl) (fun _ _ _ h => h) (Or.inr ⟨by rfl, rfl⟩) (by assumption) ?_
      try simp only [Act.put, List.getElem_toArray, List.getElem_cons_succ, List.getElem_cons_zero, List.setIfInBounds_toArray, List.set_cons_zero, List.set_cons_succ]
      refine wpAnyH_take (i := 16) (v := undef) rfl (by kernel_rfl) (by kernel_rfl) (by kernel_rfl) (fun _ _ _ h => h) (Or.inr ⟨by rfl, rfl⟩) (by assumption) ?_
      try simp only [Act.put, List.getElem_toArray, List.getElem_cons_succ, List.getElem_cons_zero, List.setIfInBounds_toArray, List.set_cons_zero, List.set_cons_succ]
      refine wpAnyH_take (i := 17) (v := undef) rfl (by kernel_rfl) (by kernel_rfl) (by kernel_rfl) (fun _ _ _ h => h) (Or.inr ⟨by rfl, rfl⟩) (by assumption) ?_
      try simp only [Act.put, List.getElem_toArray, List.getElem_cons_succ, List.getElem_cons_zero, List.setIfInBounds_toArray, List.set_cons_zero, List.set_cons_succ]
      refine wpAnyH_take (i := 18) (v := ?v118) rfl (by kernel_rfl) (by kernel_rfl) (by kernel_rfl) (fun _ _ _ h => h) (Or.inl ⟨by rfl, ?hy118⟩) (by assumption) ?rest118
      case hy118 => (intro w' hSw; (try dsimp only at hSw); (try simp only [List.getElem_toArray, List.getElem_cons_succ, List.getElem_cons_zero]); go_simp <;> with_reducible rfl)
      try simp only [Act.put, List.getElem_toArray, List.getElem_cons_succ, List.getElem_cons_zero, List.setIfInBounds_toArray, List.set_cons_zero, List.set_cons_succ]
      refine wpAnyH_ready (rs := [19]) (by kernel_rfl) (by simp) ?_
      refine AllReadyH.cons rfl (fun K hK => ?_) AllReadyH.nil
      go_simp
      refine hK.out _ _ (by (try dsimp only); go_keep) (fun hHeld => ?_)
      clear hK K
      try simp only [Act.put, List.getElem_toArray, List.getElem_cons_succ, List.getElem_cons_zero, List.setIfInBounds_toArray, List.set_cons_zero, List.set_cons_succ]
      refine wpAnyH_take (i := 20) (v := ?v120) rfl (by kernel_rfl) (by kernel_rfl) (by kernel_rfl) (fun _ _ _ h => h) (Or.inl ⟨by rfl, ?hy120⟩) (by assumption) ?rest120
      case hy120 => (intro w' hSw; (try dsimp only at hSw); (try simp only [List.getElem_toArray, List.getElem_cons_succ, List.getElem_cons_zero]); go_simp <;> with_reducible rfl)
      try simp only [Act.put, List.getElem_toArray, List.getElem_cons_succ, List.getElem_cons_zero, List.setIfInBounds_toArray, List.set_cons_zero, List.set_cons_succ]
      refine wpAnyH_done (by kernel_rfl) ?_ _
      refine NoPanic.normal ?_
      go_wp2
      refine bodyPost_ret (v := .tuple #[.agg #[.bool x0, .bool x1, .bool mh, .bool mj, .bool kp, .bool x5, .bool x6, .bool x7, .bool false, .bool x9, .bool x10, .string x11, .string x12], .bool false]) (by simp [results, Tryd.results35, go_sem, *]) rfl ⟨⟨_, _, _, _, _, _, _, _, _, _, _, rfl⟩, ?_⟩
      repeat (first | with_reducible exact hS.out.nb | with_reducible refine Below.setCell (p := ⟨w.heap.size + 1, _, none⟩) ?_ (by show w.heap.size ≤ w.heap.size + 1; omega) _ | with_reducible refine Below.drewO ?_)
    · refine wp_region_noPanic ?_
      refine wp_region_held_drew (S := (fun w' => w'.cell? ⟨w.heap.size, 6, none⟩ = some (.int .i64 mu) ∧ w'.cell? ⟨B, 0, none⟩ = some (.bool x0) ∧ w'.cell? ⟨B, 1, none⟩ = some (.bool x1) ∧ w'.cell? ⟨B, 2, none⟩ = some (.bool mh) ∧ w'.cell? ⟨B, 3, none⟩ = some (.bool mj) ∧ w'.cell? ⟨B, 4, none⟩ = some (.bool kp) ∧ w'.cell? ⟨B, 5, none⟩ = some (.bool x5) ∧ w'.cell? ⟨B, 6, none⟩ = some (.bool x6) ∧ w'.cell? ⟨B, 7, none⟩ = some (.bool x7) ∧ w'.cell? ⟨B, 8, none⟩ = some (.bool false) ∧ w'.cell? ⟨B, 9, none⟩ = some (.bool x9) ∧ w'.cell? ⟨B, 10, none⟩ = some (.bool x10) ∧ w'.cell? ⟨B, 11, none⟩ = some (.string x11) ∧ w'.cell? ⟨B, 12, none⟩ = some (.string x12))) (by kernel_rfl) (by (try dsimp only); go_keep) (fun hHeld => ?_)
      refine wpAnyH_take (i := 0) (v := ?v200) rfl (by kernel_rfl) (by kernel_rfl) (by kernel_rfl) (fun _ _ _ h => h) (Or.inl ⟨by rfl, ?hy200⟩) (by assumption) ?rest200
      case hy200 => (intro w' hSw; (try dsimp only at hSw); (try simp only [List.getElem_toArray, List.getElem_cons_zero]); go_simp <;> with_reducible rfl)
      try simp only [Act.put, List.getElem_toArray, List.getElem_cons_zero, List.setIfInBounds_toArray, List.set_cons_zero, List.set_cons_succ]
      refine wpAnyH_take (i := 1) (v := ?v201) rfl (by kernel_rfl) (by kernel_rfl) (by kernel_rfl) (fun _ _ _ h => h) (Or.inl ⟨by rfl, ?hy201⟩) (by assumption) ?rest201
      case hy201 => (intro w' hSw; (try dsimp only at hSw); (try simp only [List.getElem_toArray, List.getElem_cons_succ, List.getElem_cons_zero]); go_simp <;> with_reducible rfl)
      try simp only [Act.put, List.getElem_toArray, List.getElem_cons_succ, List.getElem_cons_zero, List.setIfInBounds_toArray, List.set_cons_zero, List.set_cons_succ]
      refine wpAnyH_take (i := 2) (v := ?v202) rfl (by kernel_rfl) (by kernel_rfl) (by kernel_rfl) (fun _ _ _ h => h) (Or.inl ⟨by rfl, ?hy202⟩) (by assumption) ?rest202
      case hy202 => (intro w' hSw; (try dsimp only at hSw); (try simp only [List.getElem_toArray, List.getElem_cons_succ, List.getElem_cons_zero]); go_simp <;> with_reducible rfl)
      try simp only [Act.put, List.getElem_toArray, List.getElem_cons_succ, List.getElem_cons_zero, List.setIfInBounds_toArray, List.set_cons_zero, List.set_cons_succ]
      refine wpAnyH_take (i := 3) (v := ?v203) rfl (by kernel_rfl) (by kernel_rfl) (by kernel_rfl) (fun _ _ _ h => h) (Or.inl ⟨by rfl, ?hy203⟩) (by assumption) ?rest203
      case hy203 => (intro w' hSw; (try dsimp only at hSw); (try simp only [List.getElem_toArray, List.getElem_cons_succ, List.getElem_cons_zero]); go_simp <;> with_reducible rfl)
      try simp only [Act.put, List.getElem_toArray, List.getElem_cons_succ, List.getElem_cons_zero, List.setIfInBounds_toArray, List.set_cons_zero, List.set_cons_succ]
      refine wpAnyH_take (i := 4) (v := undef) rfl (by kernel_rfl) (by kernel_rfl) (by kernel_rfl) (fun _ _ _ h => h) (Or.inr ⟨by rfl, rfl⟩) (by assumption) ?_
      try simp only [Act.put, List.getElem_toArray, List.getElem_cons_succ, List.getElem_cons_zero, List.setIfInBounds_toArray, List.set_cons_zero, List.set_cons_succ]
      refine wpAnyH_take (i := 5) (v := undef) rfl (by kernel_rfl) (by kernel_rfl) (by kernel_rfl) (fun _ _ _ h => h) (Or.inr ⟨by rfl, rfl⟩) (by assumption) ?_
      try simp only [Act.put, List.getElem_toArray, List.getElem_cons_succ, List.getElem_cons_zero, List.setIfInBounds_toArray, List.set_cons_zero, List.set_cons_succ]
      refine wpAnyH_take (i := 6) (v := undef) rfl (by kernel_rfl) (by kernel_rfl) (by kernel_rfl) (fun _ _ _ h => h) (Or.inr ⟨by rfl, rfl⟩) (by assumption) ?_
      try simp only [Act.put, List.getElem_toArray, List.getElem_cons_succ, List.getElem_cons_zero, List.setIfInBounds_toArray, List.set_cons_zero, List.set_cons_succ]
      refine wpAnyH_take (i := 7) (v := ?v207) rfl (by kernel_rfl) (by kernel_rfl) (by kernel_rfl) (fun _ _ _ h => h) (Or.inl ⟨by rfl, ?hy207⟩) (by assumption) ?rest207
      case hy207 => (intro w' hSw; (try dsimp only at hSw); (try simp only [List.getElem_toArray, List.getElem_cons_succ, List.getElem_cons_zero]); go_simp <;> with_reducible rfl)
      try simp only [Act.put, List.getElem_toArray, List.getElem_cons_succ, List.getElem_cons_zero, List.setIfInBounds_toArray, List.set_cons_zero, List.set_cons_succ]
      refine wpAnyH_take (i := 8) (v := ?v208) rfl (by kernel_rfl) (by kernel_rfl) (by kernel_rfl) (fun _ _ _ h => h) (Or.inl ⟨by rfl, ?hy208⟩) (by assumption) ?rest208
      case hy208 => (intro w' hSw; (try dsimp only at hSw); (try simp only [List.getElem_toArray, List.getElem_cons_succ, List.getElem_cons_zero]); go_simp <;> with_reducible rfl)
      try simp only [Act.put, List.getElem_toArray, List.getElem_cons_succ, List.getElem_cons_zero, List.setIfInBounds_toArray, List.set_cons_zero, List.set_cons_succ]
      refine wpAnyH_take (i := 9) (v := ?v209) rfl (by kernel_rfl) (by kernel_rfl) (by kernel_rfl) (fun _ _ _ h => h) (Or.inl ⟨by rfl, ?hy209⟩) (by assumption) ?rest209
      case hy209 => (intro w' hSw; (try dsimp only at hSw); (try simp only [List.getElem_toArray, List.getElem_cons_succ, List.getElem_cons_zero]); go_simp <;> with_reducible rfl)
      try simp only [Act.put, List.getElem_toArray, List.getElem_cons_succ, List.getElem_cons_zero, List.setIfInBounds_toArray, List.set_cons_zero, List.set_cons_succ]
      refine wpAnyH_take (i := 10) (v := ?v210) rfl (by kernel_rfl) (by kernel_rfl) (by kernel_rfl) (fun _ _ _ h => h) (Or.inl ⟨by rfl, ?hy210⟩) (by assumption) ?rest210
      case hy210 => (intro w' hSw; (try dsimp only at hSw); (try simp only [List.getElem_toArray, List.getElem_cons_succ, List.getElem_cons_zero]); go_simp <;> with_reducible rfl)
      try simp only [Act.put, List.getElem_toArray, List.getElem_cons_succ, List.getElem_cons_zero, List.setIfInBounds_toArray, List.set_cons_zero, List.set_cons_succ]
      refine wpAnyH_take (i := 11) (v := ?v211) rfl (by kernel_rfl) (by kernel_rfl) (by kernel_rfl) (fun _ _ _ h => h) (Or.inl ⟨by rfl, ?hy211⟩) (by assumption) ?rest211
      case hy211 => (intro w' hSw; (try dsimp only at hSw); (try simp only [List.getElem_toArray, List.getElem_cons_succ, List.getElem_cons_zero]); go_simp <;> with_reducible rfl)
      try simp only [Act.put, List.getElem_toArray, List.getElem_cons_succ, List.getElem_cons_zero, List.setIfInBounds_toArray, List.set_cons_zero, List.set_cons_succ]
      refine wpAnyH_ready (rs := [12]) (by kernel_rfl) (by simp) ?_
      refine AllReadyH.cons rfl (fun K hK => ?_) AllReadyH.nil
      go_simp
      refine (HB11.out _).mono ?_
      rintro e w2 ⟨rfl, rfl⟩
      go_wp2_with fail
      refine hK.out _ _ (by (try dsimp only); go_keep) (fun hHeld => ?_)
      clear hK K
      try simp only [Act.put, List.getElem_toArray, List.getElem_cons_succ, List.getElem_cons_zero, List.setIfInBounds_toArray, List.set_cons_zero, List.set_cons_succ]
      refine wpAnyH_take (i := 13) (v := ?v213) rfl (by kernel_rfl) (by kernel_rfl) (by kernel_rfl) (fun _ _ _ h => h) (Or.inl ⟨by rfl, ?hy213⟩) (by assumption) ?rest213
      case hy213 => (intro w' hSw; (try dsimp only at hSw); (try simp only [List.getElem_toArray, List.getElem_cons_succ, List.getElem_cons_zero]); go_simp <;> with_reducible rfl)
      try simp only [Act.put, List.getElem_toArray, List.getElem_cons_succ, List.getElem_cons_zero, List.setIfInBounds_toArray, List.set_cons_zero, List.set_cons_succ]
      refine wpAnyH_take (i := 14) (v := ?v214) rfl (by kernel_rfl) (by kernel_rfl) (by kernel_rfl) (fun _ _ _ h => h) (Or.inl ⟨by rfl, ?hy214⟩) (by assumption) ?rest214
      case hy214 => (intro w' hSw; (try dsimp only at hSw); (try simp only [List.getElem_toArray, List.getElem_cons_succ, List.getElem_cons_zero]); go_simp <;> with_reducible rfl)
      try simp only [Act.put, List.getElem_toArray, List.getElem_cons_succ, List.getElem_cons_zero, List.setIfInBounds_toArray, List.set_cons_zero, List.set_cons_succ]
      refine wpAnyH_take (i := 15) (v := ?v215) rfl (by kernel_rfl) (by kernel_rfl) (by kernel_rfl) (fun _ _ _ h => h) (Or.inl ⟨by rfl, ?hy215⟩) (by assumption) ?rest215
      case hy215 => (intro w' hSw; (try dsimp only at hSw); (try simp only [List.getElem_toArray, List.getElem_cons_succ, List.getElem_cons_zero]); go_simp <;> with_reducible rfl)
      try simp only [Act.put, List.getElem_toArray, List.getElem_cons_succ, List.getElem_cons_zero, List.setIfInBounds_toArray, List.set_cons_zero, List.set_cons_succ]
      refine wpAnyH_take (i := 16) (v := ?v216) rfl (by kernel_rfl) (by kernel_rfl) (by kernel_rfl) (fun _ _ _ h => h) (Or.inl ⟨by rfl, ?hy216⟩) (by assumption) ?rest216
      case hy216 => (intro w' hSw; (try dsimp only at hSw); (try simp only [List.getElem_toArray, List.getElem_cons_succ, List.getElem_cons_zero]); go_simp <;> with_reducible rfl)
      try simp only [Act.put, List.getElem_toArray, List.getElem_cons_succ, List.getElem_cons_zero, List.setIfInBounds_toArray, List.set_cons_zero, List.set_cons_succ]
      refine wpAnyH_ready (rs := [17]) (by kernel_rfl) (by simp) ?_
      refine AllReadyH.cons rfl (fun K hK => ?_) AllReadyH.nil
      go_simp
      refine (HB12.out _).mono ?_
      rintro e w2 ⟨rfl, rfl⟩
      go_wp2_with fail
      refine hK.out _ _ (by (try dsimp only); go_keep) (fun hHeld => ?_)
      clear hK K
      try simp only [Act.put, List.getElem_toArray, List.getElem_cons_succ, List.getElem_cons_zero, List.setIfInBounds_toArray, List.set_cons_zero, List.set_cons_succ]
      refine wpAnyH_take (i := 18) (v := ?v218) rfl (by kernel_rfl) (by kernel_rfl) (by kernel_rfl) (fun _ _ _ h => h) (Or.inl ⟨by rfl, ?hy218⟩) (by assumption) ?rest218
      case hy218 => (intro w' hSw; (try dsimp only at hSw); (try simp only [List.getElem_toArray, List.getElem_cons_succ, List.getElem_cons_zero]); go_simp <;> with_reducible rfl)
      try simp only [Act.put, List.getElem_toArray, List.getElem_cons_succ, List.getElem_cons_zero, List.setIfInBounds_toArray, List.set_cons_zero, List.set_cons_succ]
      refine wpAnyH_ready (rs := [19]) (by kernel_rfl) (by simp) ?_
      refine AllReadyH.cons rfl (fun K hK => ?_) AllReadyH.nil
      go_simp
      refine hK.out _ _ (by (try dsimp only); go_keep) (fun hHeld => ?_)
      clear hK K
      try simp only [Act.put, List.getElem_toArray, List.getElem_cons_succ, List.getElem_cons_zero, List.setIfInBounds_toArray, List.set_cons_zero, List.set_cons_succ]
      refine wpAnyH_take (i := 20) (v := ?v220) rfl (by kernel_rfl) (by kernel_rfl) (by kernel_rfl) (fun _ _ _ h => h) (Or.inl ⟨by rfl, ?hy220⟩) (by assumption) ?rest220
      case hy220 => (intro w' hSw; (try dsimp only at hSw); (try simp only [List.getElem_toArray, List.getElem_cons_succ, List.getElem_cons_zero]); go_simp <;> with_reducible rfl)
      try simp only [Act.put, List.getElem_toArray, List.getElem_cons_succ, List.getElem_cons_zero, List.setIfInBounds_toArray, List.set_cons_zero, List.set_cons_succ]
      refine wpAnyH_done (by kernel_rfl) ?_ _
      refine NoPanic.normal ?_
      go_wp2
      refine bodyPost_ret (v := .tuple #[.agg #[.bool x0, .bool x1, .bool mh, .bool mj, .bool kp, .bool x5, .bool x6, .bool x7, .bool false, .bool x9, .bool x10, .string x11, .string x12], .bool t12]) (by simp [results, Tryd.results35, go_sem, *]) rfl ⟨⟨_, _, _, _, _, _, _, _, _, _, _, rfl⟩, ?_⟩
      repeat (first | with_reducible exact hS.out.nb | with_reducible refine Below.setCell (p := ⟨w.heap.size + 1, _, none⟩) ?_ (by show w.heap.size ≤ w.heap.size + 1; omega) _ | with_reducible refine Below.drewO ?_)
  · cases hb4 : (mu == 2)
    · cases t11
      · refine wp_region_noPanic ?_
        refine wp_region_held_drew (S := (fun w' => w'.cell? ⟨w.heap.size, 6, none⟩ = some (.int .i64 mu) ∧ w'.cell? ⟨B, 0, none⟩ = some (.bool x0) ∧ w'.cell? ⟨B, 1, none⟩ = some (.bool x1) ∧ w'.cell? ⟨B, 2, none⟩ = some (.bool mh) ∧ w'.cell? ⟨B, 3, none⟩ = some (.bool mj) ∧ w'.cell? ⟨B, 4, none⟩ = some (.bool kp) ∧ w'.cell? ⟨B, 5, none⟩ = some (.bool x5) ∧ w'.cell? ⟨B, 6, none⟩ = some (.bool x6) ∧ w'.cell? ⟨B, 7, none⟩ = some (.bool x7) ∧ w'.cell? ⟨B, 8, none⟩ = some (.bool true) ∧ w'.cell? ⟨B, 9, none⟩ = some (.bool x9) ∧ w'.cell? ⟨B, 10, none⟩ = some (.bool x10) ∧ w'.cell? ⟨B, 11, none⟩ = some (.string x11) ∧ w'.cell? ⟨B, 12, none⟩ = some (.string x12))) (by kernel_rfl) (by (try dsimp only); go_keep) (fun hHeld => ?_)
        refine wpAnyH_take (i := 0) (v := ?v300) rfl (by kernel_rfl) (by kernel_rfl) (by kernel_rfl) (fun _ _ _ h => h) (Or.inl ⟨by rfl, ?hy300⟩) (by assumption) ?rest300
        case hy300 => (intro w' hSw; (try dsimp only at hSw); (try simp only [List.getElem_toArray, List.getElem_cons_zero]); go_simp <;> with_reducible rfl)
        try simp only [Act.put, List.getElem_toArray, List.getElem_cons_zero, List.setIfInBounds_toArray, List.set_cons_zero, List.set_cons_succ]
        refine wpAnyH_take (i := 1) (v := ?v301) rfl (by kernel_rfl) (by kernel_rfl) (by kernel_rfl) (fun _ _ _ h => h) (Or.inl ⟨by rfl, ?hy301⟩) (by assumption) ?rest301
        case hy301 => (intro w' hSw; (try dsimp only at hSw); (try simp only [List.getElem_toArray, List.getElem_cons_succ, List.getElem_cons_zero]); go_simp <;> with_reducible rfl)
        try simp only [Act.put, List.getElem_toArray, List.getElem_cons_succ, List.getElem_cons_zero, List.setIfInBounds_toArray, List.set_cons_zero, List.set_cons_succ]
        refine wpAnyH_take (i := 2) (v := ?v302) rfl (by kernel_rfl) (by kernel_rfl) (by kernel_rfl) (fun _ _ _ h => h) (Or.inl ⟨by rfl, ?hy302⟩) (by assumption) ?rest302
        case hy302 => (intro w' hSw; (try dsimp only at hSw); (try simp only [List.getElem_toArray, List.getElem_cons_succ, List.getElem_cons_zero]); go_simp <;> with_reducible rfl)
        try simp only [Act.put, List.getElem_toArray, List.getElem_cons_succ, List.getElem_cons_zero, List.setIfInBounds_toArray, List.set_cons_zero, List.set_cons_succ]
        refine wpAnyH_take (i := 3) (v := ?v303) rfl (by kernel_rfl) (by kernel_rfl) (by kernel_rfl) (fun _ _ _ h => h) (Or.inl ⟨by rfl, ?hy303⟩) (by assumption) ?rest303
        case hy303 => (intro w' hSw; (try dsimp only at hSw); (try simp only [List.getElem_toArray, List.getElem_cons_succ, List.getElem_cons_zero]); go_simp <;> with_reducible rfl)
        try simp only [Act.put, List.getElem_toArray, List.getElem_cons_succ, List.getElem_cons_zero, List.setIfInBounds_toArray, List.set_cons_zero, List.set_cons_succ]
        refine wpAnyH_take (i := 4) (v := ?v304) rfl (by kernel_rfl) (by kernel_rfl) (by kernel_rfl) (fun _ _ _ h => h) (Or.inl ⟨by rfl, ?hy304⟩) (by assumption) ?rest304
        case hy304 => (intro w' hSw; (try dsimp only at hSw); (try simp only [List.getElem_toArray, List.getElem_cons_succ, List.getElem_cons_zero]); go_simp <;> with_reducible rfl)
        try simp only [Act.put, List.getElem_toArray, List.getElem_cons_succ, List.getElem_cons_zero, List.setIfInBounds_toArray, List.set_cons_zero, List.set_cons_succ]
        refine wpAnyH_take (i := 5) (v := ?v305) rfl (by kernel_rfl) (by kernel_rfl) (by kernel_rfl) (fun _ _ _ h => h) (Or.inl ⟨by rfl, ?hy305⟩) (by assumption) ?rest305
        case hy305 => (intro w' hSw; (try dsimp only at hSw); (try simp only [List.getElem_toArray, List.getElem_cons_succ, List.getElem_cons_zero]); go_simp <;> with_reducible rfl)
        try simp only [Act.put, List.getElem_toArray, List.getElem_cons_succ, List.getElem_cons_zero, List.setIfInBounds_toArray, List.set_cons_zero, List.set_cons_succ]
        refine wpAnyH_take (i := 6) (v := ?v306) rfl (by kernel_rfl) (by kernel_rfl) (by kernel_rfl) (fun _ _ _ h => h) (Or.inl ⟨by rfl, ?hy306⟩) (by assumption) ?rest306
        case hy306 => (intro w' hSw; (try dsimp only at hSw); (try simp only [List.getElem_toArray, List.getElem_cons_succ, List.getElem_cons_zero]); go_simp <;> with_reducible rfl)
        try simp only [Act.put, List.getElem_toArray, List.getElem_cons_succ, List.getElem_cons_zero, List.setIfInBounds_toArray, List.set_cons_zero, List.set_cons_succ]
        refine wpAnyH_take (i := 7) (v := ?v307) rfl (by kernel_rfl) (by kernel_rfl) (by kernel_rfl) (fun _ _ _ h => h) (Or.inl ⟨by rfl, ?hy307⟩) (by assumption) ?rest307
        case hy307 => (intro w' hSw; (try dsimp only at hSw); (try simp only [List.getElem_toArray, List.getElem_cons_succ, List.getElem_cons_zero]); go_simp <;> with_reducible rfl)
        try simp only [Act.put, List.getElem_toArray, List.getElem_cons_succ, List.getElem_cons_zero, List.setIfInBounds_toArray, List.set_cons_zero, List.set_cons_succ]
        refine wpAnyH_take (i := 8) (v := ?v308) rfl (by kernel_rfl) (by kernel_rfl) (by kernel_rfl) (fun _ _ _ h => h) (Or.inl ⟨by rfl, ?hy308⟩) (by assumption) ?rest308
        case hy308 => (intro w' hSw; (try dsimp only at hSw); (try simp only [List.getElem_toArray, List.getElem_cons_succ, List.getElem_cons_zero]); go_simp <;> with_reducible rfl)
        try simp only [Act.put, List.getElem_toArray, List.getElem_cons_succ, List.getElem_cons_zero, List.setIfInBounds_toArray, List.set_cons_zero, List.set_cons_succ]
        refine wpAnyH_take (i := 9) (v := ?v309) rfl (by kernel_rfl) (by kernel_rfl) (by kernel_rfl) (fun _ _ _ h => h) (Or.inl ⟨by rfl, ?hy309⟩) (by assumption) ?rest309
        case hy309 => (intro w' hSw; (try dsimp only at hSw); (try simp only [List.getElem_toArray, List.getElem_cons_succ, List.getElem_cons_zero]); go_simp <;> with_reducible rfl)
        try simp only [Act.put, List.getElem_toArray, List.getElem_cons_succ, List.getElem_cons_zero, List.setIfInBounds_toArray, List.set_cons_zero, List.set_cons_succ]
        refine wpAnyH_take (i := 10) (v := ?v310) rfl (by kernel_rfl) (by kernel_rfl) (by kernel_rfl) (fun _ _ _ h => h) (Or.inl ⟨by rfl, ?hy310⟩) (by assumption) ?rest310
        case hy310 => (intro w' hSw; (try dsimp only at hSw); (try simp only [List.getElem_toArray, List.getElem_cons_succ, List.getElem_cons_zero]); go_simp <;> with_reducible rfl)
        try simp only [Act.put, List.getElem_toArray, List.getElem_cons_succ, List.getElem_cons_zero, List.setIfInBounds_toArray, List.set_cons_zero, List.set_cons_succ]
        refine wpAnyH_take (i := 11) (v := ?v311) rfl (by kernel_rfl) (by kernel_rfl) (by kernel_rfl) (fun _ _ _ h => h) (Or.inl ⟨by rfl, ?hy311⟩) (by assumption) ?rest311
        case hy311 => (intro w' hSw; (try dsimp only at hSw); (try simp only [List.getElem_toArray, List.getElem_cons_succ, List.getElem_cons_zero]); go_simp <;> with_reducible rfl)
        try simp only [Act.put, List.getElem_toArray, List.getElem_cons_succ, List.getElem_cons_zero, List.setIfInBounds_toArray, List.set_cons_zero, List.set_cons_succ]
        refine wpAnyH_ready (rs := [12]) (by kernel_rfl) (by simp) ?_
        refine AllReadyH.cons rfl (fun K hK => ?_) AllReadyH.nil
        go_simp
        refine (HB11.out _).mono ?_
        rintro e w2 ⟨rfl, rfl⟩
        go_wp2_with fail
        refine hK.out _ _ (by (try dsimp only); go_keep) (fun hHeld => ?_)
        clear hK K
        try simp only [Act.put, List.getElem_toArray, List.getElem_cons_succ, List.getElem_cons_zero, List.setIfInBounds_toArray, List.set_cons_zero, List.set_cons_succ]
        refine wpAnyH_take (i := 13) (v := ?v313) rfl (by kernel_rfl) (by kernel_rfl) (by kernel_rfl) (fun _ _ _ h => h) (Or.inl ⟨by rfl, ?hy313⟩) (by assumption) ?rest313
        case hy313 => (intro w' hSw; (try dsimp only at hSw); (try simp only [List.getElem_toArray, List.getElem_cons_succ, List.getElem_cons_zero]); go_simp <;> with_reducible rfl)
        try simp only [Act.put, List.getElem_toArray, List.getElem_cons_succ, List.getElem_cons_zero, List.setIfInBounds_toArray, List.set_cons_zero, List.set_cons_succ]
        refine wpAnyH_take (i := 14) (v := ?v314) rfl (by kernel_rfl) (by kernel_rfl) (by kernel_rfl) (fun _ _ _ h => h) (Or.inl ⟨by rfl, ?hy314⟩) (by assumption) ?rest314
        case hy314 => (intro w' hSw; (try dsimp only at hSw); (try simp only [List.getElem_toArray, List.getElem_cons_succ, List.getElem_cons_zero]); go_simp <;> with_reducible rfl)
        try simp only [Act.put, List.getElem_toArray, List.getElem_cons_succ, List.getElem_cons_zero, List.setIfInBounds_toArray, List.set_cons_zero, List.set_cons_succ]
        refine wpAnyH_take (i := 15) (v := undef) rfl (by kernel_rfl) (by kernel_rfl) (by kernel_rfl) (fun _ _ _ h => h) (Or.inr ⟨by rfl, rfl⟩) (by assumption) ?_
        try simp only [Act.put, List.getElem_toArray, List.getElem_cons_succ, List.getElem_cons_zero, List.setIfInBounds_toArray, List.set_cons_zero, List.set_cons_succ]
        refine wpAnyH_take (i := 16) (v := undef) rfl (by kernel_rfl) (by kernel_rfl) (by kernel_rfl) (fun _ _ _ h => h) (Or.inr ⟨by rfl, rfl⟩) (by assumption) ?_
        try simp only [Act.put, List.getElem_toArray, List.getElem_cons_succ, List.getElem_cons_zero, List.setIfInBounds_toArray, List.set_cons_zero, List.set_cons_succ]
        refine wpAnyH_take (i := 17) (v := undef) rfl (by kernel_rfl) (by kernel_rfl) (by kernel_rfl) (fun _ _ _ h => h) (Or.inr ⟨by rfl, rfl⟩) (by assumption) ?_
        try simp only [Act.put, List.getElem_toArray, List.getElem_cons_succ, List.getElem_cons_zero, List.setIfInBounds_toArray, List.set_cons_zero, List.set_cons_succ]
        refine wpAnyH_take (i := 18) (v := ?v318) rfl (by kernel_rfl) (by kernel_rfl) (by kernel_rfl) (fun _ _ _ h => h) (Or.inl ⟨by rfl, ?hy318⟩) (by assumption) ?rest318
        case hy318 => (intro w' hSw; (try dsimp only at hSw); (try simp only [List.getElem_toArray, List.getElem_cons_succ, List.getElem_cons_zero]); go_simp <;> with_reducible rfl)
        try simp only [Act.put, List.getElem_toArray, List.getElem_cons_succ, List.getElem_cons_zero, List.setIfInBounds_toArray, List.set_cons_zero, List.set_cons_succ]
        refine wpAnyH_ready (rs := [19]) (by kernel_rfl) (by simp) ?_
        refine AllReadyH.cons rfl (fun K hK => ?_) AllReadyH.nil
        go_simp
        refine hK.out _ _ (by (try dsimp only); go_keep) (fun hHeld => ?_)
        clear hK K
        try simp only [Act.put, List.getElem_toArray, List.getElem_cons_succ, List.getElem_cons_zero, List.setIfInBounds_toArray, List.set_cons_zero, List.set_cons_succ]
        refine wpAnyH_take (i := 20) (v := ?v320) rfl (by kernel_rfl) (by kernel_rfl) (by kernel_rfl) (fun _ _ _ h => h) (Or.inl ⟨by rfl, ?hy320⟩) (by assumption) ?rest320
        case hy320 => (intro w' hSw; (try dsimp only at hSw); (try simp only [List.getElem_toArray, List.getElem_cons_succ, List.getElem_cons_zero]); go_simp <;> with_reducible rfl)
        try simp only [Act.put, List.getElem_toArray, List.getElem_cons_succ, List.getElem_cons_zero, List.setIfInBounds_toArray, List.set_cons_zero, List.set_cons_succ]
        refine wpAnyH_done (by kernel_rfl) ?_ _
        refine NoPanic.normal ?_
        go_wp2
        refine bodyPost_ret (v := .tuple #[.agg #[.bool x0, .bool x1, .bool mh, .bool mj, .bool kp, .bool x5, .bool x6, .bool x7, .bool true, .bool x9, .bool x10, .string x11, .string x12], .bool false]) (by simp [results, Tryd.results35, go_sem, *]) rfl ⟨⟨_, _, _, _, _, _, _, _, _, _, _, rfl⟩, ?_⟩
        repeat (first | with_reducible exact hS.out.nb | with_reducible refine Below.setCell (p := ⟨w.heap.size + 1, _, none⟩) ?_ (by show w.heap.size ≤ w.heap.size + 1; omega) _ | with_reducible refine Below.drewO ?_)
      · refine wp_region_noPanic ?_
        refine wp_region_held_drew (S := (fun w' => w'.cell? ⟨w.heap.size, 6, none⟩ = some (.int .i64 mu) ∧ w'.cell? ⟨B, 0, none⟩ = some (.bool x0) ∧ w'.cell? ⟨B, 1, none⟩ = some (.bool x1) ∧ w'.cell? ⟨B, 2, none⟩ = some (.bool mh) ∧ w'.cell? ⟨B, 3, none⟩ = some (.bool mj) ∧ w'.cell? ⟨B, 4, none⟩ = some (.bool kp) ∧ w'.cell? ⟨B, 5, none⟩ = some (.bool x5) ∧ w'.cell? ⟨B, 6, none⟩ = some (.bool x6) ∧ w'.cell? ⟨B, 7, none⟩ = some (.bool x7) ∧ w'.cell? ⟨B, 8, none⟩ = some (.bool true) ∧ w'.cell? ⟨B, 9, none⟩ = some (.bool x9) ∧ w'.cell? ⟨B, 10, none⟩ = some (.bool x10) ∧ w'.cell? ⟨B, 11, none⟩ = some (.string x11) ∧ w'.cell? ⟨B, 12, none⟩ = some (.string x12))) (by kernel_rfl) (by (try dsimp only); go_keep) (fun hHeld => ?_)
        refine wpAnyH_take (i := 0) (v := ?v400) rfl (by kernel_rfl) (by kernel_rfl) (by kernel_rfl) (fun _ _ _ h => h) (Or.inl ⟨by rfl, ?hy400⟩) (by assumption) ?rest400
        case hy400 => (intro w' hSw; (try dsimp only at hSw); (try simp only [List.getElem_toArray, List.getElem_cons_zero]); go_simp <;> with_reducible rfl)
        try simp only [Act.put, List.getElem_toArray, List.getElem_cons_zero, List.setIfInBounds_toArray, List.set_cons_zero, List.set_cons_succ]
        refine wpAnyH_take (i := 1) (v := ?v401) rfl (by kernel_rfl) (by kernel_rfl) (by kernel_rfl) (fun _ _ _ h => h) (Or.inl ⟨by rfl, ?hy401⟩) (by assumption) ?rest401
        case hy401 => (intro w' hSw; (try dsimp only at hSw); (try simp only [List.getElem_toArray, List.getElem_cons_succ, List.getElem_cons_zero]); go_simp <;> with_reducible rfl)
        try simp only [Act.put, List.getElem_toArray, List.getElem_cons_succ, List.getElem_cons_zero, List.setIfInBounds_toArray, List.set_cons_zero, List.set_cons_succ]
        refine wpAnyH_take (i := 2) (v := ?v402) rfl (by kernel_rfl) (by kernel_rfl) (by kernel_rfl) (fun _ _ _ h => h) (Or.inl ⟨by rfl, ?hy402⟩) (by assumption) ?rest402
        case hy402 => (intro w' hSw; (try dsimp only at hSw); (try simp only [List.getElem_toArray, List.getElem_cons_succ, List.getElem_cons_zero]); go_simp <;> with_reducible rfl)
        try simp only [Act.put, List.getElem_toArray, List.getElem_cons_succ, List.getElem_cons_zero, List.setIfInBounds_toArray, List.set_cons_zero, List.set_cons_succ]
        refine wpAnyH_take (i := 3) (v := ?v403) rfl (by kernel_rfl) (by kernel_rfl) (by kernel_rfl) (fun _ _ _ h => h) (Or.inl ⟨by rfl, ?hy403⟩) (by assumption) ?rest403
        case hy403 => (intro w' hSw; (try dsimp only at hSw); (try simp only [List.getElem_toArray, List.getElem_cons_succ, List.getElem_cons_zero]); go_simp <;> with_reducible rfl)
        try simp only [Act.put, List.getElem_toArray, List.getElem_cons_succ, List.getElem_cons_zero, List.setIfInBounds_toArray, List.set_cons_zero, List.set_cons_succ]
        refine wpAnyH_take (i := 4) (v := ?v404) rfl (by kernel_rfl) (by kernel_rfl) (by kernel_rfl) (fun _ _ _ h => h) (Or.inl ⟨by rfl, ?hy404⟩) (by assumption) ?rest404
        case hy404 => (intro w' hSw; (try dsimp only at hSw); (try simp only [List.getElem_toArray, List.getElem_cons_succ, List.getElem_cons_zero]); go_simp <;> with_reducible rfl)
        try simp only [Act.put, List.getElem_toArray, List.getElem_cons_succ, List.getElem_cons_zero, List.setIfInBounds_toArray, List.set_cons_zero, List.set_cons_succ]
        refine wpAnyH_take (i := 5) (v := ?v405) rfl (by kernel_rfl) (by kernel_rfl) (by kernel_rfl) (fun _ _ _ h => h) (Or.inl ⟨by rfl, ?hy405⟩) (by assumption) ?rest405
        case hy405 => (intro w' hSw; (try dsimp only at hSw); (try simp only [List.getElem_toArray, List.getElem_cons_succ, List.getElem_cons_zero]); go_simp <;> with_reducible rfl)
        try simp only [Act.put, List.getElem_toArray, List.getElem_cons_succ, List.getElem_cons_zero, List.setIfInBounds_toArray, List.set_cons_zero, List.set_cons_succ]
        refine wpAnyH_take (i := 6) (v := ?v406) rfl (by kernel_rfl) (by kernel_rfl) (by kernel_rfl) (fun _ _ _ h => h) (Or.inl ⟨by rfl, ?hy406⟩) (by assumption) ?rest406
        case hy406 => (intro w' hSw; (try dsimp only at hSw); (try simp only [List.getElem_toArray, List.getElem_cons_succ, List.getElem_cons_zero]); go_simp <;> with_reducible rfl)
        try simp only [Act.put, List.getElem_toArray, List.getElem_cons_succ, List.getElem_cons_zero, List.setIfInBounds_toArray, List.set_cons_zero, List.set_cons_succ]
        refine wpAnyH_take (i := 7) (v := ?v407) rfl (by kernel_rfl) (by kernel_rfl) (by kernel_rfl) (fun _ _ _ h => h) (Or.inl ⟨by rfl, ?hy407⟩) (by assumption) ?rest407
        case hy407 => (intro w' hSw; (try dsimp only at hSw); (try simp only [List.getElem_toArray, List.getElem_cons_succ, List.getElem_cons_zero]); go_simp <;> with_reducible rfl)
        try simp only [Act.put, List.getElem_toArray, List.getElem_cons_succ, List.getElem_cons_zero, List.setIfInBounds_toArray, List.set_cons_zero, List.set_cons_succ]
        refine wpAnyH_take (i := 8) (v := ?v408) rfl (by kernel_rfl) (by kernel_rfl) (by kernel_rfl) (fun _ _ _ h => h) (Or.inl ⟨by rfl, ?hy408⟩) (by assumption) ?rest408
        case hy408 => (intro w' hSw; (try dsimp only at hSw); (try simp only [List.getElem_toArray, List.getElem_cons_succ, List.getElem_cons_zero]); go_simp <;> with_reducible rfl)
        try simp only [Act.put, List.getElem_toArray, List.getElem_cons_succ, List.getElem_cons_zero, List.setIfInBounds_toArray, List.set_cons_zero, List.set_cons_succ]
        refine wpAnyH_take (i := 9) (v := ?v409) rfl (by kernel_rfl) (by kernel_rfl) (by kernel_rfl) (fun _ _ _ h => h) (Or.inl ⟨by rfl, ?hy409⟩) (by assumption) ?rest409
        case hy409 => (intro w' hSw; (try dsimp only at hSw); (try simp only [List.getElem_toArray, List.getElem_cons_succ, List.getElem_cons_zero]); go_simp <;> with_reducible rfl)
        try simp only [Act.put, List.getElem_toArray, List.getElem_cons_succ, List.getElem_cons_zero, List.setIfInBounds_toArray, List.set_cons_zero, List.set_cons_succ]
        refine wpAnyH_take (i := 10) (v := ?v410) rfl (by kernel_rfl) (by kernel_rfl) (by kernel_rfl) (fun _ _ _ h => h) (Or.inl ⟨by rfl, ?hy410⟩) (by assumption) ?rest410
        case hy410 => (intro w' hSw; (try dsimp only at hSw); (try simp only [List.getElem_toArray, List.getElem_cons_succ, List.getElem_cons_zero]); go_simp <;> with_reducible rfl)
        try simp only [Act.put, List.getElem_toArray, List.getElem_cons_succ, List.getElem_cons_zero, List.setIfInBounds_toArray, List.set_cons_zero, List.set_cons_succ]
        refine wpAnyH_take (i := 11) (v := ?v411) rfl (by kernel_rfl) (by kernel_rfl) (by kernel_rfl) (fun _ _ _ h => h) (Or.inl ⟨by rfl, ?hy411⟩) (by assumption) ?rest411
        case hy411 => (intro w' hSw; (try dsimp only at hSw); (try simp only [List.getElem_toArray, List.getElem_cons_succ, List.getElem_cons_zero]); go_simp <;> with_reducible rfl)
        try simp only [Act.put, List.getElem_toArray, List.getElem_cons_succ, List.getElem_cons_zero, List.setIfInBounds_toArray, List.set_cons_zero, List.set_cons_succ]
        refine wpAnyH_ready (rs := [12]) (by kernel_rfl) (by simp) ?_
        refine AllReadyH.cons rfl (fun K hK => ?_) AllReadyH.nil
        go_simp
        refine (HB11.out _).mono ?_
        rintro e w2 ⟨rfl, rfl⟩
        go_wp2_with fail
        refine hK.out _ _ (by (try dsimp only); go_keep) (fun hHeld => ?_)
        clear hK K
        try simp only [Act.put, List.getElem_toArray, List.getElem_cons_succ, List.getElem_cons_zero, List.setIfInBounds_toArray, List.set_cons_zero, List.set_cons_succ]
        refine wpAnyH_take (i := 13) (v := ?v413) rfl (by kernel_rfl) (by kernel_rfl) (by kernel_rfl) (fun _ _ _ h => h) (Or.inl ⟨by rfl, ?hy413⟩) (by assumption) ?rest413
        case hy413 => (intro w' hSw; (try dsimp only at hSw); (try simp only [List.getElem_toArray, List.getElem_cons_succ, List.getElem_cons_zero]); go_simp <;> with_reducible rfl)
        try simp only [Act.put, List.getElem_toArray, List.getElem_cons_succ, List.getElem_cons_zero, List.setIfInBounds_toArray, List.set_cons_zero, List.set_cons_succ]
        refine wpAnyH_take (i := 14) (v := ?v414) rfl (by kernel_rfl) (by kernel_rfl) (by kernel_rfl) (fun _ _ _ h => h) (Or.inl ⟨by rfl, ?hy414⟩) (by assumption) ?rest414
        case hy414 => (intro w' hSw; (try dsimp only at hSw); (try simp only [List.getElem_toArray, List.getElem_cons_succ, List.getElem_cons_zero]); go_simp <;> with_reducible rfl)
        try simp only [Act.put, List.getElem_toArray, List.getElem_cons_succ, List.getElem_cons_zero, List.setIfInBounds_toArray, List.set_cons_zero, List.set_cons_succ]
        refine wpAnyH_take (i := 15) (v := ?v415) rfl (by kernel_rfl) (by kernel_rfl) (by kernel_rfl) (fun _ _ _ h => h) (Or.inl ⟨by rfl, ?hy415⟩) (by assumption) ?rest415
        case hy415 => (intro w' hSw; (try dsimp only at hSw); (try simp only [List.getElem_toArray, List.getElem_cons_succ, List.getElem_cons_zero]); go_simp <;> with_reducible rfl)
        try simp only [Act.put, List.getElem_toArray, List.getElem_cons_succ, List.getElem_cons_zero, List.setIfInBounds_toArray, List.set_cons_zero, List.set_cons_succ]
        refine wpAnyH_take (i := 16) (v := ?v416) rfl (by kernel_rfl) (by kernel_rfl) (by kernel_rfl) (fun _ _ _ h => h) (Or.inl ⟨by rfl, ?hy416⟩) (by assumption) ?rest416
        case hy416 => (intro w' hSw; (try dsimp only at hSw); (try simp only [List.getElem_toArray, List.getElem_cons_succ, List.getElem_cons_zero]); go_simp <;> with_reducible rfl)
        try simp only [Act.put, List.getElem_toArray, List.getElem_cons_succ, List.getElem_cons_zero, List.setIfInBounds_toArray, List.set_cons_zero, List.set_cons_succ]
        refine wpAnyH_ready (rs := [17]) (by kernel_rfl) (by simp) ?_
        refine AllReadyH.cons rfl (fun K hK => ?_) AllReadyH.nil
        go_simp
        refine (HB12.out _).mono ?_
        rintro e w2 ⟨rfl, rfl⟩
        go_wp2_with fail
        refine hK.out _ _ (by (try dsimp only); go_keep) (fun hHeld => ?_)
        clear hK K
        try simp only [Act.put, List.getElem_toArray, List.getElem_cons_succ, List.getElem_cons_zero, List.setIfInBounds_toArray, List.set_cons_zero, List.set_cons_succ]
        refine wpAnyH_take (i := 18) (v := ?v418) rfl (by kernel_rfl) (by kernel_rfl) (by kernel_rfl) (fun _ _ _ h => h) (Or.inl ⟨by rfl, ?hy418⟩) (by assumption) ?rest418
        case hy418 => (intro w' hSw; (try dsimp only at hSw); (try simp only [List.getElem_toArray, List.getElem_cons_succ, List.getElem_cons_zero]); go_simp <;> with_reducible rfl)
        try simp only [Act.put, List.getElem_toArray, List.getElem_cons_succ, List.getElem_cons_zero, List.setIfInBounds_toArray, List.set_cons_zero, List.set_cons_succ]
        refine wpAnyH_ready (rs := [19]) (by kernel_rfl) (by simp) ?_
        refine AllReadyH.cons rfl (fun K hK => ?_) AllReadyH.nil
        go_simp
        refine hK.out _ _ (by (try dsimp only); go_keep) (fun hHeld => ?_)
        clear hK K
        try simp only [Act.put, List.getElem_toArray, List.getElem_cons_succ, List.getElem_cons_zero, List.setIfInBounds_toArray, List.set_cons_zero, List.set_cons_succ]
        refine wpAnyH_take (i := 20) (v := ?v420) rfl (by kernel_rfl) (by kernel_rfl) (by kernel_rfl) (fun _ _ _ h => h) (Or.inl ⟨by rfl, ?hy420⟩) (by assumption) ?rest420
        case hy420 => (intro w' hSw; (try dsimp only at hSw); (try simp only [List.getElem_toArray, List.getElem_cons_succ, List.getElem_cons_zero]); go_simp <;> with_reducible rfl)
        try simp only [Act.put, List.getElem_toArray, List.getElem_cons_succ, List.getElem_cons_zero, List.setIfInBounds_toArray, List.set_cons_zero, List.set_cons_succ]
        refine wpAnyH_done (by kernel_rfl) ?_ _
        refine NoPanic.normal ?_
        go_wp2
        refine bodyPost_ret (v := .tuple #[.agg #[.bool x0, .bool x1, .bool mh, .bool mj, .bool kp, .bool x5, .bool x6, .bool x7, .bool true, .bool x9, .bool x10, .string x11, .string x12], .bool t12]) (by simp [results, Tryd.results35, go_sem, *]) rfl ⟨⟨_, _, _, _, _, _, _, _, _, _, _, rfl⟩, ?_⟩
        repeat (first | with_reducible exact hS.out.nb | with_reducible refine Below.setCell (p := ⟨w.heap.size + 1, _, none⟩) ?_ (by show w.heap.size ≤ w.heap.size + 1; omega) _ | with_reducible refine Below.drewO ?_)
    · refine wp_region_noPanic ?_
      refine wp_region_held_drew (S := (fun w' => w'.cell? ⟨w.heap.size, 6, none⟩ = some (.int .i64 mu) ∧ w'.cell? ⟨B, 0, none⟩ = some (.bool x0) ∧ w'.cell? ⟨B, 1, none⟩ = some (.bool x1) ∧ w'.cell? ⟨B, 2, none⟩ = some (.bool mh) ∧ w'.cell? ⟨B, 3, none⟩ = some (.bool mj) ∧ w'.cell? ⟨B, 4, none⟩ = some (.bool kp) ∧ w'.cell? ⟨B, 5, none⟩ = some (.bool x5) ∧ w'.cell? ⟨B, 6, none⟩ = some (.bool x6) ∧ w'.cell? ⟨B, 7, none⟩ = some (.bool x7) ∧ w'.cell? ⟨B, 8, none⟩ = some (.bool true) ∧ w'.cell? ⟨B, 9, none⟩ = some (.bool x9) ∧ w'.cell? ⟨B, 10, none⟩ = some (.bool x10) ∧ w'.cell? ⟨B, 11, none⟩ = some (.string x11) ∧ w'.cell? ⟨B, 12, none⟩ = some (.string x12))) (by kernel_rfl) (by (try dsimp only); go_keep) (fun hHeld => ?_)
      refine wpAnyH_take (i := 0) (v := ?v500) rfl (by kernel_rfl) (by kernel_rfl) (by kernel_rfl) (fun _ _ _ h => h) (Or.inl ⟨by rfl, ?hy500⟩) (by assumption) ?rest500
      case hy500 => (intro w' hSw; (try dsimp only at hSw); (try simp only [List.getElem_toArray, List.getElem_cons_zero]); go_simp <;> with_reducible rfl)
      try simp only [Act.put, List.getElem_toArray, List.getElem_cons_zero, List.setIfInBounds_toArray, List.set_cons_zero, List.set_cons_succ]
      refine wpAnyH_take (i := 1) (v := ?v501) rfl (by kernel_rfl) (by kernel_rfl) (by kernel_rfl) (fun _ _ _ h => h) (Or.inl ⟨by rfl, ?hy501⟩) (by assumption) ?rest501
      case hy501 => (intro w' hSw; (try dsimp only at hSw); (try simp only [List.getElem_toArray, List.getElem_cons_succ, List.getElem_cons_zero]); go_simp <;> with_reducible rfl)
      try simp only [Act.put, List.getElem_toArray, List.getElem_cons_succ, List.getElem_cons_zero, List.setIfInBounds_toArray, List.set_cons_zero, List.set_cons_succ]
      refine wpAnyH_take (i := 2) (v := ?v502) rfl (by kernel_rfl) (by kernel_rfl) (by kernel_rfl) (fun _ _ _ h => h) (Or.inl ⟨by rfl, ?hy502⟩) (by assumption) ?rest502
      case hy502 => (intro w' hSw; (try dsimp only at hSw); (try simp only [List.getElem_toArray, List.getElem_cons_succ, List.getElem_cons_zero]); go_simp <;> with_reducible rfl)
      try simp only [Act.put, List.getElem_toArray, List.getElem_cons_succ, List.getElem_cons_zero, List.setIfInBounds_toArray, List.set_cons_zero, List.set_cons_succ]
      refine wpAnyH_take (i := 3) (v := ?v503) rfl (by kernel_rfl) (by kernel_rfl) (by kernel_rfl) (fun _ _ _ h => h) (Or.inl ⟨by rfl, ?hy503⟩) (by assumption) ?rest503
      case hy503 => (intro w' hSw; (try dsimp only at hSw); (try simp only [List.getElem_toArray, List.getElem_cons_succ, List.getElem_cons_zero]); go_simp <;> with_reducible rfl)
      try simp only [Act.put, List.getElem_toArray, List.getElem_cons_succ, List.getElem_cons_zero, List.setIfInBounds_toArray, List.set_cons_zero, List.set_cons_succ]
      refine wpAnyH_take (i := 4) (v := ?v504) rfl (by kernel_rfl) (by kernel_rfl) (by kernel_rfl) (fun _ _ _ h => h) (Or.inl ⟨by rfl, ?hy504⟩) (by assumption) ?rest504
      case hy504 => (intro w' hSw; (try dsimp only at hSw); (try simp only [List.getElem_toArray, List.getElem_cons_succ, List.getElem_cons_zero]); go_simp <;> with_reducible rfl)
      try simp only [Act.put, List.getElem_toArray, List.getElem_cons_succ, List.getElem_cons_zero, List.setIfInBounds_toArray, List.set_cons_zero, List.set_cons_succ]
      refine wpAnyH_take (i := 5) (v := ?v505) rfl (by kernel_rfl) (by kernel_rfl) (by kernel_rfl) (fun _ _ _ h => h) (Or.inl ⟨by rfl, ?hy505⟩) (by assumption) ?rest505
      case hy505 => (intro w' hSw; (try dsimp only at hSw); (try simp only [List.getElem_toArray, List.getElem_cons_succ, List.getElem_cons_zero]); go_simp <;> with_reducible rfl)
      try simp only [Act.put, List.getElem_toArray, List.getElem_cons_succ, List.getElem_cons_zero, List.setIfInBounds_toArray, List.set_cons_zero, List.set_cons_succ]
      refine wpAnyH_take (i := 6) (v := ?v506) rfl (by kernel_rfl) (by kernel_rfl) (by kernel_rfl) (fun _ _ _ h => h) (Or.inl ⟨by rfl, ?hy506⟩) (by assumption) ?rest506
      case hy506 => (intro w' hSw; (try dsimp only at hSw); (try simp only [List.getElem_toArray, List.getElem_cons_succ, List.getElem_cons_zero]); go_simp <;> with_reducible rfl)
      try simp only [Act.put, List.getElem_toArray, List.getElem_cons_succ, List.getElem_cons_zero, List.setIfInBounds_toArray, List.set_cons_zero, List.set_cons_succ]
      refine wpAnyH_take (i := 7) (v := ?v507) rfl (by kernel_rfl) (by kernel_rfl) (by kernel_rfl) (fun _ _ _ h => h) (Or.inl ⟨by rfl, ?hy507⟩) (by assumption) ?rest507
      case hy507 => (intro w' hSw; (try dsimp only at hSw); (try simp only [List.getElem_toArray, List.getElem_cons_succ, List.getElem_cons_zero]); go_simp <;> with_reducible rfl)
      try simp only [Act.put, List.getElem_toArray, List.getElem_cons_succ, List.getElem_cons_zero, List.setIfInBounds_toArray, List.set_cons_zero, List.set_cons_succ]
      refine wpAnyH_take (i := 8) (v := ?v508) rfl (by kernel_rfl) (by kernel_rfl) (by kernel_rfl) (fun _ _ _ h => h) (Or.inl ⟨by rfl, ?hy508⟩) (by assumption) ?rest508
      case hy508 => (intro w' hSw; (try dsimp only at hSw); (try simp only [List.getElem_toArray, List.getElem_cons_succ, List.getElem_cons_zero]); go_simp <;> with_reducible rfl)
      try simp only [Act.put, List.getElem_toArray, List.getElem_cons_succ, List.getElem_cons_zero, List.setIfInBounds_toArray, List.set_cons_zero, List.set_cons_succ]
      refine wpAnyH_take (i := 9) (v := ?v509) rfl (by kernel_rfl) (by kernel_rfl) (by kernel_rfl) (fun _ _ _ h => h) (Or.inl ⟨by rfl, ?hy509⟩) (by assumption) ?rest509
      case hy509 => (intro w' hSw; (try dsimp only at hSw); (try simp only [List.getElem_toArray, List.getElem_cons_succ, List.getElem_cons_zero]); go_simp <;> with_reducible rfl)
      try simp only [Act.put, List.getElem_toArray, List.getElem_cons_succ, List.getElem_cons_zero, List.setIfInBounds_toArray, List.set_cons_zero, List.set_cons_succ]
      refine wpAnyH_take (i := 10) (v := undef) rfl (by kernel_rfl) (by kernel_rfl) (by kernel_rfl) (fun _ _ _ h => h) (Or.inr ⟨by rfl, rfl⟩) (by assumption) ?_
      try simp only [Act.put, List.getElem_toArray, List.getElem_cons_succ, List.getElem_cons_zero, List.setIfInBounds_toArray, List.set_cons_zero, List.set_cons_succ]
      refine wpAnyH_take (i := 11) (v := undef) rfl (by kernel_rfl) (by kernel_rfl) (by kernel_rfl) (fun _ _ _ h => h) (Or.inr ⟨by rfl, rfl⟩) (by assumption) ?_
      try simp only [Act.put, List.getElem_toArray, List.getElem_cons_succ, List.getElem_cons_zero, List.setIfInBounds_toArray, List.set_cons_zero, List.set_cons_succ]
      refine wpAnyH_take (i := 12) (v := undef) rfl (by kernel_rfl) (by kernel_rfl) (by kernel_rfl) (fun _ _ _ h => h) (Or.inr ⟨by rfl, rfl⟩) (by assumption) ?_
      try simp only [Act.put, List.getElem_toArray, List.getElem_cons_succ, List.getElem_cons_zero, List.setIfInBounds_toArray, List.set_cons_zero, List.set_cons_succ]
      refine wpAnyH_take (i := 13) (v := ?v513) rfl (by kernel_rfl) (by kernel_rfl) (by kernel_rfl) (fun _ _ _ h => h) (Or.inl ⟨by rfl, ?hy513⟩) (by assumption) ?rest513
      case hy513 => (intro w' hSw; (try dsimp only at hSw); (try simp only [List.getElem_toArray, List.getElem_cons_succ, List.getElem_cons_zero]); go_simp <;> with_reducible rfl)
      try simp only [Act.put, List.getElem_toArray, List.getElem_cons_succ, List.getElem_cons_zero, List.setIfInBounds_toArray, List.set_cons_zero, List.set_cons_succ]
      refine wpAnyH_take (i := 14) (v := ?v514) rfl (by kernel_rfl) (by kernel_rfl) (by kernel_rfl) (fun _ _ _ h => h) (Or.inl ⟨by rfl, ?hy514⟩) (by assumption) ?rest514
      case hy514 => (intro w' hSw; (try dsimp only at hSw); (try simp only [List.getElem_toArray, List.getElem_cons_succ, List.getElem_cons_zero]); go_simp <;> with_reducible rfl)
      try simp only [Act.put, List.getElem_toArray, List.getElem_cons_succ, List.getElem_cons_zero, List.setIfInBounds_toArray, List.set_cons_zero, List.set_cons_succ]
      refine wpAnyH_take (i := 15) (v := undef) rfl (by kernel_rfl) (by kernel_rfl) (by kernel_rfl) (fun _ _ _ h => h) (Or.inr ⟨by rfl, rfl⟩) (by assumption) ?_
      try simp only [Act.put, List.getElem_toArray, List.getElem_cons_succ, List.getElem_cons_zero, List.setIfInBounds_toArray, List.set_cons_zero, List.set_cons_succ]
      refine wpAnyH_take (i := 16) (v := undef) rfl (by kernel_rfl) (by kernel_rfl) (by kernel_rfl) (fun _ _ _ h => h) (Or.inr ⟨by rfl, rfl⟩) (by assumption) ?_
      try simp only [Act.put, List.getElem_toArray, List.getElem_cons_succ, List.getElem_cons_zero, List.setIfInBounds_toArray, List.set_cons_zero, List.set_cons_succ]
      refine wpAnyH_take (i := 17) (v := undef) rfl (by kernel_rfl) (by kernel_rfl) (by kernel_rfl) (fun _ _ _ h => h) (Or.inr ⟨by rfl, rfl⟩) (by assumption) ?_
      try simp only [Act.put, List.getElem_toArray, List.getElem_cons_succ, List.getElem_cons_zero, List.setIfInBounds_toArray, List.set_cons_zero, List.set_cons_succ]
      refine wpAnyH_take (i := 18) (v := ?v518) rfl (by kernel_rfl) (by kernel_rfl) (by kernel_rfl) (fun _ _ _ h => h) (Or.inl ⟨by rfl, ?hy518⟩) (by assumption) ?rest518
      case hy518 => (intro w' hSw; (try dsimp only at hSw); (try simp only [List.getElem_toArray, List.getElem_cons_succ, List.getElem_cons_zero]); go_simp <;> with_reducible rfl)
      try simp only [Act.put, List.getElem_toArray, List.getElem_cons_succ, List.getElem_cons_zero, List.setIfInBounds_toArray, List.set_cons_zero, List.set_cons_succ]
      refine wpAnyH_ready (rs := [19]) (by kernel_rfl) (by simp) ?_
      refine AllReadyH.cons rfl (fun K hK => ?_) AllReadyH.nil
      go_simp
      refine hK.out _ _ (by (try dsimp only); go_keep) (fun hHeld => ?_)
      clear hK K
      try simp only [Act.put, List.getElem_toArray, List.getElem_cons_succ, List.getElem_cons_zero, List.setIfInBounds_toArray, List.set_cons_zero, List.set_cons_succ]
      refine wpAnyH_take (i := 20) (v := ?v520) rfl (by kernel_rfl) (by kernel_rfl) (by kernel_rfl) (fun _ _ _ h => h) (Or.inl ⟨by rfl, ?hy520⟩) (by assumption) ?rest520
      case hy520 => (intro w' hSw; (try dsimp only at hSw); (try simp only [List.getElem_toArray, List.getElem_cons_succ, List.getElem_cons_zero]); go_simp <;> with_reducible rfl)
      try simp only [Act.put, List.getElem_toArray, List.getElem_cons_succ, List.getElem_cons_zero, List.setIfInBounds_toArray, List.set_cons_zero, List.set_cons_succ]
      refine wpAnyH_done (by kernel_rfl) ?_ _
      refine NoPanic.normal ?_
      go_wp2
      refine bodyPost_ret (v := .tuple #[.agg #[.bool x0, .bool x1, .bool mh, .bool mj, .bool kp, .bool x5, .bool x6, .bool x7, .bool true, .bool x9, .bool x10, .string x11, .string x12], .bool false]) (by simp [results, Tryd.results35, go_sem, *]) rfl ⟨⟨_, _, _, _, _, _, _, _, _, _, _, rfl⟩, ?_⟩
      repeat (first | with_reducible exact hS.out.nb | with_reducible refine Below.setCell (p := ⟨w.heap.size + 1, _, none⟩) ?_ (by show w.heap.size ≤ w.heap.size + 1; omega) _ | with_reducible refine Below.drewO ?_)
end Go.Proofs.YtldcoaigecnpfaaDoor
