/- bytes.Buffer: Write, walked. -/
import Derived.Test.YtklncgmfbflooaaDoorBufGrow
namespace Go.Proofs.YtklncgmfbflooaaDoor
open Go.RowKit
/-- copy into a row, whatever its freeze behind what is written. -/
theorem run_copy_G (w : World) (g o dLen dCap : Nat) (a : Addr) (sLen sCap : Nat) (cur : Array Value) (t : TypeId) (fz : Nat × Nat) (cs : List Value)
    (hg : w.heap[g]? = some (.cells cur t fz)) (hfz : fz.2 ≤ o ∨ o + cs.length ≤ fz.1) (hn : cs.length = Nat.min sLen dLen)
    (hsrc : ∀ j v, cs[j]? = some v → w.cell? (a.add j) = some v) (hfit : o + cs.length ≤ cur.size) (h1 : ∀ v ∈ cs, v.oneCell' = true) :
    (Builtin.copy_ #[56, 56] 3 #[.slice (some ⟨g, o, none⟩) dLen dCap, .slice (some a) sLen sCap]).run Tryd.prog w =
      .ok (goInt cs.length) (w.setRow g (cur.toList.take o ++ cs ++ cur.toList.drop (o + cs.length)).toArray) := by
  obtain ⟨i, hi, hz, hs, hby⟩ := info_parts infoU8
  have hl := run_loadCells_list (P := Tryd.prog) w a cs hsrc
  have hst := run_storeCells_G Tryd.prog g o t fz cs 0 cur w hg (by simpa using hfz) (by simpa using hfit) h1
  have hu := Tryd.underlying56
  simp [Builtin.copy_, run_underlying hu, Builtin.lenOf, Builtin.firstCells, sizeOf, typeInfo, hi, hs, ← hn, hl, hst]
/-- What stays: all below but p and g. -/
structure Gq (p g : Nat) (w w' : World) : Prop where
  os : w'.os = w.os
  tape : w'.tape = w.tape
  output : w'.output = w.output
  size : w.heap.size ≤ w'.heap.size
  block : ∀ k, k < w.heap.size → k ≠ p → k ≠ g → w'.heap[k]? = w.heap[k]?
/-- Behind the bytes of a buffer others are written. -/
theorem Buf.write {w : World} {g o l c : Nat} {L E : List UInt8} (hL : L.length = l) (hB : Buf w 0 none (.slice (some ⟨g, o, none⟩) l c) L) (hroom : l + E.length ≤ c) (a : Addr) (sCap dCap : Nat) (ha : ∀ j, j < E.length → w.cell? (a.add j) = some (.int .u8 (atL E j))) :
    ∃ w', (Builtin.copy_ #[56, 56] 3 #[.slice (some ⟨g, o + l, none⟩) E.length dCap, .slice (some a) E.length sCap]).run Tryd.prog w = .ok (goInt E.length) w' ∧ Buf w' 0 none (.slice (some ⟨g, o, none⟩) (l + E.length) c) (L ++ E) ∧
      w'.os = w.os ∧ w'.tape = w.tape ∧ w'.output = w.output ∧ w'.heap.size = w.heap.size ∧ ∀ k, k ≠ g → w'.heap[k]? = w.heap[k]? := by
  rcases hB with ⟨e, _⟩ | ⟨g', o', cap, cur, fz, e, hgb, hh, hlc, hcm, hoc, hfz, hcl⟩
  · cases e
  · cases e
    have hsrc : ∀ j v, (nums E)[j]? = some v → w.cell? (a.add j) = some v := fun j v hv => by
      obtain ⟨hj, rfl⟩ := nums_get_iff hv
      exact ha j hj
    have hfitm : o + L.length + (nums E).length ≤ cur.size := by rw [nums_length]; omega
    have hrun := run_copy_G w g (o + L.length) E.length dCap a E.length sCap cur _ fz (nums E) hh (by rw [nums_length]; omega) (by rw [nums_length]; exact (Nat.min_self _).symm) hsrc (by rw [nums_length]; omega) (nums_one E)
    rw [nums_length] at hrun
    refine ⟨_, hrun, ?_, rfl, rfl, rfl, by simp, fun k hk => setRow_other w g k _ hk⟩
    refine .inr ⟨g, o, c, _, fz, by rw [List.length_append], .inl (Nat.zero_le _), setRow_heap w g cur _ _ _ hh, by rw [List.length_append]; exact hroom, hcm, ?_, by rw [List.length_append]; omega, fun j hj => ?_⟩
    · simp only [List.size_toArray, List.length_append, List.length_take, List.length_drop, Array.length_toList, nums_length] at hfitm ⊢; omega
    · rw [List.length_append] at hj
      have hfit2 : o + L.length + (nums E).length ≤ cur.toList.length := by simpa using hfitm
      rw [List.getElem?_toArray, ← nums_length E, seg_get _ _ _ hfit2]
      by_cases hjl : j < L.length
      · rw [if_pos (by omega), atL_app_left _ _ _ hjl, Array.getElem?_toList]; exact hcl j hjl
      · rw [if_neg (by omega), if_pos (by rw [nums_length]; omega), atL_app_right _ _ _ (by omega)]
        have : o + j - (o + L.length) = j - L.length := by omega
        rw [this]
        exact nums_get E _ (by omega)
theorem Gq.of {p g : Nat} {w w' : World} (h : Gp p w w') : Gq p g w w' := ⟨h.os, h.tape, h.output, h.size, fun k hk hp _ => h.block k hk hp⟩
def WritePost (p g : Nat) (M : List UInt8) (w : World) (e : Ending) (w' : World) : Prop :=
  ∃ g1 o1 c1 m, e = .returned (.tuple #[.int .i64 m, .nilIface]) ∧ BHead w' p (.slice (some ⟨g1, o1, none⟩) M.length c1) ∧ Buf w' 0 none (.slice (some ⟨g1, o1, none⟩) M.length c1) M ∧ M.length ≤ c1 ∧ Gq p g w w'
/-- The last step: what stands behind the copy. -/
theorem write_end {p g g1 o1 c1 : Nat} {L E : List UInt8} {w W : World} (hh : BHead W p (.slice (some ⟨g1, o1, none⟩) (L.length + E.length) c1)) (hb : Buf W 0 none (.slice (some ⟨g1, o1, none⟩) L.length c1) L) (hroom : L.length + E.length ≤ c1) (hne : g1 ≠ p)
    (hG : Gp p w W) (hor : g1 = g ∨ w.heap.size ≤ g1) (a : Addr) (sCap : Nat) (ha : ∀ j, j < E.length → W.cell? (a.add j) = some (.int .u8 (atL E j))) :
    ∃ W3, (Builtin.copy_ #[56, 56] 3 #[.slice (some ⟨g1, o1 + L.length, none⟩) E.length (c1 - L.length), .slice (some a) E.length sCap]).run Tryd.prog W = .ok (goInt E.length) W3 ∧ WritePost p g (L ++ E) w (.returned (.tuple #[.int .i64 E.length, .nilIface])) W3 := by
  obtain ⟨W3, hr, hb3, q1, q2, q3, q4, q5⟩ := hb.write rfl hroom a sCap (c1 - L.length) ha
  refine ⟨W3, hr, g1, o1, c1, _, rfl, ?_, by rw [List.length_append]; exact hb3, by rw [List.length_append]; exact hroom, ⟨q1.trans hG.os, q2.trans hG.tape, q3.trans hG.output, by have := hG.size; omega, fun k hk hp hg => (q5 k (by rcases hor with h | h <;> omega)).trans (hG.block k hk hp)⟩⟩
  rw [List.length_append]
  obtain ⟨r, h2⟩ := hh.c2
  have e := q5 p (Ne.symm hne)
  exact ⟨(World.cell?_of_block (a := ⟨p, 0, none⟩) e).trans hh.c0, (World.cell?_of_block (a := ⟨p, 1, none⟩) e).trans hh.c1, ⟨r, (World.cell?_of_block (a := ⟨p, 2, none⟩) e).trans h2⟩, fun j => by have := hh.fz j; unfold World.frozen? at this ⊢; rw [e]; exact this, by have := hh.lt; omega⟩
set_option maxHeartbeats 4000000 in
theorem writeS (p g o c g2 o2 c2 : Nat) (L E : List UInt8) (w : World) (h : BHead w p (.slice (some ⟨g, o, none⟩) L.length c)) (hB : Buf w 0 none (.slice (some ⟨g, o, none⟩) L.length c) L) (hpg : g ≠ p) (hlc : L.length ≤ c) (hc : c ≤ maxLen) (hL : L.length ≤ 100000000)
    (hE1 : 1 ≤ E.length) (hE2 : E.length ≤ 100000000) (ha : BytesAt w g2 o2 E) (hgp : g2 ≠ p) (hg2 : g2 < w.heap.size) :
    Calls Tryd.prog 44 #[.pointer (some ⟨p, 0, none⟩), .slice (some ⟨g2, o2, none⟩) E.length c2] w (WritePost p g (L ++ E) w) := by
  obtain ⟨r, hc2⟩ := h.c2
  have hfz := h.fz
  obtain ⟨W1, hW1⟩ : ∃ W1, W1 = w.setCell ⟨p, 2, none⟩ (.int .i8 0) := ⟨_, rfl⟩
  have h1 : BHead W1 p (.slice (some ⟨g, o, none⟩) L.length c) := by rw [hW1]; exact h.set2 0
  have b1 : Buf W1 0 none (.slice (some ⟨g, o, none⟩) L.length c) L := by rw [hW1]; exact hB.setP hpg _
  have G1 : Gp p w W1 := by rw [hW1]; exact (Gp.refl p w).set _ _
  have hT := tryGrow _ p g o L.length c E.length W1 h1 hlc hc (by omega) (by omega) rfl
  have hsrc : ∀ W, Gp p w W → ∀ j, j < E.length → W.cell? ((⟨g2, o2, none⟩ : Addr).add j) = some (.int .u8 (atL E j)) := fun W hW j hj => by
    rw [addr_add]
    exact (World.cell?_of_block (a := ⟨g2, o2 + j, none⟩) (hW.block g2 hg2 hgp)).trans (ha j hj)
  by_cases hr : L.length + E.length ≤ c
  · rw [decide_eq_true hr] at hT
    obtain ⟨W3, hrun, hfin⟩ := write_end (g := g) (h1.set (.slice (some ⟨g, o, none⟩) (L.length + E.length) c)) (b1.setP hpg (j := 0) (.slice (some ⟨g, o, none⟩) (L.length + E.length) c)) hr hpg (G1.set 0 (.slice (some ⟨g, o, none⟩) (L.length + E.length) c)) (.inl rfl) ⟨g2, o2, none⟩ c2 (hsrc _ (G1.set 0 _))
    have HFIN := Lib.hid hfin
    have HT : Hid (Calls Tryd.prog 64 #[.pointer (some ⟨p, 0, none⟩), .int .i64 E.length] W1 (fun e w' => e = .returned (.tuple #[.int .i64 L.length, .bool true]) ∧ w' = W1.setCell ⟨p, 0, none⟩ (.slice (some ⟨g, o, none⟩) (L.length + E.length) c))) := hT
    have hd0 := (h1.set (.slice (some ⟨g, o, none⟩) (L.length + E.length) c)).c0
    have hne : ¬ (c = L.length) := by omega
    have hle : (L.length : Int) ≤ (c : Int) := by omega
    clear h hB h1 b1 G1 hT hsrc hfin ha hc hL hE1 hE2 hr hlc
    generalize L.length = l at *
    generalize E.length = q at *
    subst hW1
    go_enter Tryd.func44, Tryd.ntmps44
    go_wp2_with fail
    refine HT.out.mono ?_
    rintro e w2 ⟨rfl, rfl⟩
    go_wp2
    go_ret2
    exact HFIN.out
  · rw [decide_eq_false hr] at hT
    have hG := growS p g o c E.length L W1 h1 b1 hpg hlc hc hL hE2
    have HG : Hid (Calls Tryd.prog 63 #[.pointer (some ⟨p, 0, none⟩), .int .i64 E.length] W1 (fun e W => ∃ g1 o1 c1 W3, e = .returned (.int .i64 L.length) ∧ W.cell? ⟨p, 0, none⟩ = some (.slice (some ⟨g1, o1, none⟩) (L.length + E.length) c1) ∧ L.length < c1 ∧
        (Builtin.copy_ #[56, 56] 3 #[.slice (some ⟨g1, o1 + L.length, none⟩) E.length (c1 - L.length), .slice (some ⟨g2, o2, none⟩) E.length c2]).run Tryd.prog W = .ok (goInt E.length) W3 ∧ Hid (WritePost p g (L ++ E) w (.returned (.tuple #[.int .i64 E.length, .nilIface])) W3))) := hG.mono fun e W ⟨g1, o1, c1, q1, q2, q3, q4, q5, q6, q7⟩ => by
      obtain ⟨W3, hrun, hfin⟩ := write_end (g := g) q2 q3 q4 q5 (G1.trans q6) (q7.elim (fun z => .inl z.1) (fun z => .inr (by have := G1.size; omega))) ⟨g2, o2, none⟩ c2 (hsrc _ (G1.trans q6))
      exact ⟨g1, o1, c1, W3, q1, q2.c0, by omega, hrun, hfin⟩
    have HT : Hid (Calls Tryd.prog 64 #[.pointer (some ⟨p, 0, none⟩), .int .i64 E.length] W1 (fun e w' => e = .returned (.tuple #[.int .i64 0, .bool false]) ∧ w' = W1)) := hT
    clear h hB h1 b1 G1 hT hsrc ha hc hL hE1 hE2 hr hlc hG
    generalize L.length = l at *
    generalize E.length = q at *
    subst hW1
    go_enter Tryd.func44, Tryd.ntmps44
    go_wp2_with fail
    refine HT.out.mono ?_
    rintro e w2 ⟨rfl, rfl⟩
    go_wp2_with fail
    refine HG.out.mono ?_
    rintro e w2 ⟨g1, o1, c1, W3, rfl, hd0, hlt, hrun, HFIN⟩
    have hne : ¬ (c1 = l) := by omega
    have hle : (l : Int) ≤ (c1 : Int) := by omega
    go_wp2
    go_ret2
    exact HFIN.out
end Go.Proofs.YtklncgmfbflooaaDoor
