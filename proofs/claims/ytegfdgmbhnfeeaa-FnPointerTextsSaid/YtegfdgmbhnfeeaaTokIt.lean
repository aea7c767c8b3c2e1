/- jsontext's Pointer.Tokens: the iterator over the tokens of a pointer, walked. -/
import Derived.Test.YtegfdgmbhnfeeaaRangeBox
import Derived.Test.YtegfdgmbhnfeeaaEscTok
import Derived.Shelf.Abstract
import Derived.Shelf.RegionOpen
import Derived.WalkKit
import Derived.OwnWalkIn
import Derived.TacticsInMore
import Derived.LoopNIn
import Derived.LoopIn
import Derived.Stop.RegionWithIn
import Derived.Lib.Bytealg
import Derived.Laws.EntriesVeiled
namespace Go.Proofs.Ytegfdgmbhnfeeaa
open Go.RowKit Go.Shelf
attribute [local go_sem] Oper.semAt_some
def strL (l : List UInt8) : ByteArray := ⟨l.toArray⟩
theorem strL_data (l : List UInt8) : (strL l).data.toList = l := by simp [strL]
theorem strL_size (l : List UInt8) : (strL l).size = l.length := by simp [strL, ByteArray.size]
theorem strL_ext {s : ByteArray} {l : List UInt8} (h : s.data.toList = l) : s = strL l := by
  apply ByteArray.ext; apply Array.toList_inj.1; rw [h, strL_data]
theorem strL_take (l : List UInt8) (k : Nat) : (strL l).extract 0 k = strL (l.take k) := strL_ext (by rw [ex_take, strL_data])
theorem strL_drop (l : List UInt8) (k n : Nat) (hn : n = l.length) : (strL l).extract k n = strL (l.drop k) := by
  subst hn
  have := ex_drop (strL l) k
  rw [strL_size, strL_data] at this
  exact strL_ext this
theorem esc_no47E : ∀ t : List UInt8, ∀ x, x ∈ esc t → ¬ x = 47
  | [], x, h => by simp [esc] at h
  | c :: r, x, h => by
    have he : esc (c :: r) = (if c = 126 then [126, 48] else if c = 47 then [126, 49] else [c]) ++ esc r := by unfold esc; rw [List.flatMap_cons]
    rw [he, List.mem_append] at h
    rcases h with h | h
    · by_cases a : c = 126
      · rw [if_pos a] at h; simp at h; rcases h with rfl | rfl <;> decide
      · rw [if_neg a] at h
        by_cases b : c = 47
        · rw [if_pos b] at h; simp at h; rcases h with rfl | rfl <;> decide
        · rw [if_neg b] at h; simp at h; subst h; exact b
    · exact esc_no47E r x h
theorem idx_skip : ∀ (u v : List UInt8), (∀ x, x ∈ u → ¬ x = 47) → Lib.indexByte (u ++ v) 47 = if Lib.indexByte v 47 = -1 then -1 else Lib.indexByte v 47 + u.length
  | [], v, _ => by
    rw [List.nil_append]
    split
    · next h => exact h
    · simp
  | c :: r, v, h => by
    have ih := idx_skip r v (fun x hx => h x (List.mem_cons_of_mem _ hx))
    have hc : (c == 47) = false := by simpa using h c (List.mem_cons_self ..)
    have hge := Lib.indexByte_ge v 47
    have e : Lib.indexByte (c :: (r ++ v)) 47 = if (c == 47) = true then 0 else if (Lib.indexByte (r ++ v) 47 == -1) = true then -1 else Lib.indexByte (r ++ v) 47 + 1 := rfl
    rw [List.cons_append, e, hc, ih, List.length_cons]
    generalize Lib.indexByte v 47 = z at hge
    by_cases q : z = -1
    · simp [q]
    · have hz : ¬ z + (r.length : Int) = -1 := by omega
      simp [q, hz]
      omega
theorem ptrOf_cons (t : List UInt8) (r : List (List UInt8)) : ptrOf (t :: r) = 47 :: (esc t ++ ptrOf r) := by unfold ptrOf; rw [List.flatMap_cons]; rfl
theorem idx_tok (t : List UInt8) (r : List (List UInt8)) : Lib.indexByte (esc t ++ ptrOf r) 47 = if r = [] then -1 else ((esc t).length : Int) := by
  rw [idx_skip _ _ (esc_no47E t)]
  cases r with
  | nil => rfl
  | cons a b =>
    rw [ptrOf_cons, if_neg (List.cons_ne_nil _ _)]
    have : Lib.indexByte (47 :: (esc a ++ ptrOf b)) 47 = 0 := by unfold Lib.indexByte; rfl
    rw [this, if_neg (by decide), Int.zero_add]
def IxPost1 (s : ByteArray) (w : World) (e : Ending) (w' : World) : Prop := e = .returned (.int .i64 (Lib.indexByte s.data.toList 47)) ∧ w' = w
theorem idxByte (s : ByteArray) (w : World) : Calls Try.prog 46 #[.string s, .int .u8 47] w (IxPost1 s w) := by
  have h1 : Hid (∀ W, Calls Try.prog 53 #[.string s, .int .u8 47] W (IxPost1 s W)) := Lib.hid fun W => by
    have hx : (47 : Int).toNat.toUInt8 = 47 := rfl
    go_enter Try.func53, Try.ntmps53
    go_wp2
    rw [run_callFunc_extern Try.func56 (by kernel_rfl) (by kernel_rfl) (by kernel_rfl) (e := Extern.BytealgIndexByte.indexByte) (by kernel_rfl), Lib.run_indexByteString]
    simp only [Result.andThen]
    rw [Oper.upon_value]
    go_wp2
    go_ret
    exact ⟨rfl, rfl⟩
  go_enter Try.func46, Try.ntmps46
  go_wp2_with fail
  refine (h1.out _).mono ?_
  rintro e w' ⟨rfl, rfl⟩
  go_wp2
  go_ret
  exact ⟨rfl, rfl⟩
def TrimPost (l : List UInt8) (w : World) (e : Ending) (w' : World) : Prop := e = .returned (.string (strL l)) ∧ w' = w
theorem trimS (l : List UInt8) (w : World) (hs : l.length ≤ 2147483646) : Calls Try.prog 41 #[.string (strL (47 :: l)), .string ⟨#[47]⟩] w (TrimPost l w) := by
  unfold TrimPost
  have hz : (strL (47 :: l)).size = l.length + 1 := by rw [strL_size, List.length_cons]
  have hx : (strL (47 :: l)).extract 0 1 = ⟨#[47]⟩ := by rw [strL_take]; rfl
  have hy : (strL (47 :: l)).extract 1 (l.length + 1) = strL l := by rw [strL_drop _ 1 _ (by simp)]; rfl
  generalize strL (47 :: l) = s at *
  generalize strL l = r at *
  have hp : Hid (∀ W, Calls Try.prog 52 #[.string s, .string ⟨#[47]⟩] W fun e w' => e = .returned (.bool true) ∧ w' = W) := Lib.hid fun W => by
    have e1 : decide ((1 : Int) ≤ (s.size : Int)) = true := by simp; omega
    have e3 : ((s.extract 0 1).toList == [47]) = true := by rw [hx, ByteArray.toList_eq]; rfl
    have h1 : 1 ≤ s.size := by omega
    clear hx hy hz
    go_enter Try.func52, Try.ntmps52
    go_wp2
    go_ret
    exact ⟨rfl, rfl⟩
  have hin : Hid (∀ W, Calls Try.prog 50 #[.string s, .string ⟨#[47]⟩] W fun e w' => e = .returned (.string r) ∧ w' = W) := Lib.hid fun W => by
    have h1 : 1 ≤ s.size := by omega
    have hy2 : s.extract 1 s.size = r := by rw [hz]; exact hy
    clear hx hy hz
    go_enter Try.func50, Try.ntmps50
    go_wp2_with fail
    refine (hp.out _).mono ?_
    rintro e w' ⟨rfl, rfl⟩
    go_wp2
    go_ret
    exact ⟨by rw [← hy2]; rfl, rfl⟩
  clear hx hy hz hp
  go_enter Try.func41, Try.ntmps41
  go_wp2_with fail
  refine (hin.out _).mono ?_
  rintro e w' ⟨rfl, rfl⟩
  go_wp2
  go_ret
  exact ⟨rfl, rfl⟩
theorem grown_below {w w' : World} (h : Below w.heap.size w w') (row : Option Nat) : w.grownBy w' row := ⟨h.os, h.tape, h.output, h.size, fun k hk _ => h.block k hk⟩
def boxLen (w : World) (b : Nat) : Nat := match w.cell? ⟨b, 0, none⟩ with | some (.string s) => s.size | _ => 0
theorem boxLen_of {w : World} {b : Nat} {s : ByteArray} (h : w.cell? ⟨b, 0, none⟩ = some (.string s)) : boxLen w b = s.size := by unfold boxLen; rw [h]
set_option maxRecDepth 100000 in
set_option maxHeartbeats 4000000 in
/-- The iterator: all tokens come, one by one. -/
theorem tokIt (n l Bp : Nat) (ts : List (List UInt8)) (J : List (List UInt8) → World → Prop)
    (hJ : ∀ s X Y row, J s X → X.grownBy Y row → (∀ r, row = some r → r = Bp) → J s Y)
    (hY : ∀ pre x W, J pre W → pre.length < ts.length → (∃ s, Boxed W Bp 40 (.string s)) → YieldAt Fence.wide (n - 1) Try.prog l #[.string (strL x)] W fun e W' => e = .returned (.bool true) ∧ J (pre ++ [x]) W' ∧ W'.heap[Bp]? = W.heap[Bp]?)
    (W : World) (hc : Boxed W Bp 40 (.string (strL (ptrOf ts)))) (hsz : (ptrOf ts).length ≤ 2147483647) (h0 : J [] W) :
    CallsIn Fence.wide n Try.prog 45 #[.func (.yield l) #[] #[], .pointer (some ⟨Bp, 0, none⟩)] W fun e W' => (∃ v, e = .returned v) ∧ ∃ xs, xs = ts ∧ J xs W' := by
  have HJ := Lib.hid hJ
  have HY := Lib.hid hY
  clear hJ hY
  refine callsIn_of_wp Try.func45 rfl trivial ?_ rfl
  simp only [Try.ntmps45, List.size_toArray, List.length_cons, List.length_nil, Nat.reduceAdd, Nat.reduceSub, Array.replicate_succ, Array.replicate_zero, List.push_toArray, List.append_toArray, List.nil_append, List.cons_append]
  gi_wp2
  gi_loopw [3] (fun i wr => ∃ (pre rest : List (List UInt8)), ts = pre ++ rest ∧ Boxed wr Bp 40 (.string (strL (ptrOf rest))) ∧ J pre wr) (fun _ wr => boxLen wr Bp)
  case atStart => exact ⟨[], ts, rfl, hc, h0⟩
  case round =>
    clear h0 hc
    obtain ⟨pre, rest, hx, hbx, hj⟩ := hrel
    have hle : (ptrOf rest).length ≤ 2147483647 := by
      rw [hx, ptrOf_append, List.length_append] at hsz; omega
    cases rest with
    | nil =>
      have c0 := hbx.cell
      have hz : (strL (ptrOf [])).size = 0 := rfl
      have hx2 : pre = ts := by rw [hx, List.append_nil]
      generalize strL (ptrOf []) = S at *
      gi_wp2
      go_end0
      exact ⟨⟨_, rfl⟩, _, hx2, hj⟩
    | cons t r =>
      rw [ptrOf_cons] at hbx hle
      rw [List.length_cons, List.length_append] at hle
      have c0 := hbx.cell
      have f0 := hbx.frozen
      have hqz : (strL (47 :: (esc t ++ ptrOf r))).size = (esc t).length + (ptrOf r).length + 1 := by rw [strL_size, List.length_cons, List.length_append]
      have hq1 : (strL (esc t ++ ptrOf r)).size = (esc t).length + (ptrOf r).length := by rw [strL_size, List.length_append]
      have HT : Hid (∀ W, Calls Try.prog 41 #[.string (strL (47 :: (esc t ++ ptrOf r))), .string ⟨#[47]⟩] W fun e w' => e = .returned (.string (strL (esc t ++ ptrOf r))) ∧ w' = W) := Lib.hid fun W => trimS _ W (by rw [List.length_append]; omega)
      have HIX : Hid (∀ W, Calls Try.prog 46 #[.string (strL (esc t ++ ptrOf r)), .int .u8 47] W fun e w' => e = .returned (.int .i64 (if r = [] then -1 else ((esc t).length : Int))) ∧ w' = W) := Lib.hid fun W => by
        have := idxByte (strL (esc t ++ ptrOf r)) W
        unfold IxPost1 at this
        rw [strL_data, idx_tok] at this
        exact this
      have hx1 : (strL (esc t ++ ptrOf r)).extract 0 (esc t).length = strL (esc t) := by rw [strL_take, List.take_left]
      have hx2 : (strL (esc t ++ ptrOf r)).extract (esc t).length ((esc t).length + (ptrOf r).length) = strL (ptrOf r) := by rw [strL_drop _ _ _ (by rw [List.length_append]), List.drop_left]
      have HUN : Hid (∀ W, Calls Try.prog 40 #[.string (strL (esc t))] W fun e w' => e = .returned (.string (strL t)) ∧ Below W.heap.size W w') := Lib.hid fun W => by
        have := unescape (strL (esc t)) W (by rw [strL_size]; omega)
        rw [strL_data, uq_esc] at this
        exact this
      have hbl := boxLen_of c0
      generalize strL (47 :: (esc t ++ ptrOf r)) = Q0 at *
      generalize hQ1 : strL (esc t ++ ptrOf r) = Q1 at *
      generalize hk : (esc t).length = k at *
      generalize hm : (ptrOf r).length = m at *
      have hkm : (0 : Int) < (k : Int) + (m : Int) + 1 := by omega
      gi_wp2
      refine ⟨trivial, (fun h => by cases h), (callsIn_wide.2 (HT.out _)).mono ?_⟩
      rintro e w' ⟨rfl, rfl⟩
      have c1 := hbx.set (.string Q1)
      obtain ⟨W1, hW1⟩ : ∃ W1, W1 = w'.setCell ⟨Bp, 0, none⟩ (.string Q1) := ⟨_, rfl⟩
      have j1 : J pre W1 := by rw [hW1]; exact HJ.out pre w' _ (some Bp) hj (grownBy_setCell' w' Bp _) (fun r e => by cases e; rfl)
      rw [← hW1] at c1
      have c2 := c1.cell
      have c3 : W1.drew.cell? ⟨Bp, 0, none⟩ = some (.string Q1) := c2
      gi_wp2
      rw [← hW1]
      have jD : J pre W1.drew := HJ.out pre W1 _ none j1 ⟨rfl, rfl, rfl, Nat.le_refl _, fun _ _ _ => rfl⟩ (fun r e => by cases e)
      have bD : Boxed W1.drew Bp 40 (.string Q1) := c1
      have HBL := Lib.hid (hbl.trans hqz)
      have HXX : Hid (ts = (pre ++ [t]) ++ r) := Lib.hid (by rw [hx]; simp)
      clear hW1 j1 hj hbx c0 f0 hbl
      have HFIN : Hid (∀ W3, Below W1.drew.heap.size W1.drew W3 → J pre W3 ∧ Boxed W3 Bp 40 (.string Q1)) := Lib.hid fun W3 hb => ⟨HJ.out pre W1.drew W3 none jD (grown_below hb none) (fun r e => by cases e), bD.kept (grown_below hb none) (by simp)⟩
      have HYT : Hid (∀ W3, J pre W3 → Boxed W3 Bp 40 (.string Q1) → YieldAt Fence.wide (n - 1) Try.prog l #[.string (strL t)] W3 fun e W' => e = .returned (.bool true) ∧ J (pre ++ [t]) W' ∧ W'.heap[Bp]? = W3.heap[Bp]?) := Lib.hid fun W3 hj hb => HY.out pre t W3 hj (by rw [hx, List.length_append, List.length_cons]; omega) ⟨_, hb⟩
      by_cases hr : r = []
      · have hm0 : m = 0 := by rw [← hm, hr]; rfl
        have HIX2 : Hid (∀ W, Calls Try.prog 46 #[.string Q1, .int .u8 47] W fun e w' => e = .returned (.int .i64 (-1)) ∧ w' = W) := Lib.hid fun W => by have := HIX.out W; rw [if_pos hr] at this; exact this
        have hmin : (if IntKind.u64.wrap (k : Int) < IntKind.u64.wrap (-1) then IntKind.u64.wrap (k : Int) else IntKind.u64.wrap (-1)) = (k : Int) := by
          have e1 : IntKind.u64.wrap (k : Int) = (k : Int) := by rw [IntKind.wrap_u64]; omega
          have e2 : IntKind.u64.wrap (-1) = 18446744073709551615 := by decide
          rw [e1, e2, if_pos (by omega)]
        have he : strL (ptrOf r) = ByteArray.empty := by rw [hr]; rfl
        have HE := Lib.hid he
        clear he
        clear hr
        gi_region_with (refine ⟨trivial, (fun h => by cases h), (callsIn_wide.2 (HIX2.out _)).mono ?_⟩; rintro e w' ⟨rfl, rfl⟩)
        all_goals
          try simp only [hmin]
          gi_wp2
          refine ⟨trivial, (fun h => by cases h), (callsIn_wide.2 (HUN.out _)).mono ?_⟩
          rintro e w3 ⟨rfl, hb3⟩
          obtain ⟨j3, b3⟩ := HFIN.out w3 hb3
          obtain ⟨fn, tmps, assign, body, hy, hR⟩ := HYT.out w3 j3 b3
          clear hb3
          try dsimp only at hy
          gi_wp2
          refine ⟨(fun h => by cases h), hR.mono ?_⟩
          rintro e w4 ⟨rfl, hj4, hk4⟩
          have b4 : Boxed w4 Bp 40 (.string Q1) := hk4.trans b3
          have c4 := b4.cell
          have f4 := b4.frozen
          have b5 := b4.set (.string (strL (ptrOf r)))
          have j5 := HJ.out (pre ++ [t]) w4 _ (some Bp) hj4 (grownBy_setCell' w4 Bp (.string (strL (ptrOf r)))) (fun r e => by cases e; rfl)
          have c5 := boxLen_of b5.cell
          clear hy hR hj4 hk4 j3 b3 jD bD
          gi_wp2
          rw [HE.out] at b5 j5 c5
          exact ⟨⟨pre ++ [t], r, HXX.out, by rw [HE.out]; exact b5, j5⟩, by rw [c5, HBL.out]; exact Nat.succ_pos _⟩
      · have HIX2 : Hid (∀ W, Calls Try.prog 46 #[.string Q1, .int .u8 47] W fun e w' => e = .returned (.int .i64 (k : Int)) ∧ w' = W) := Lib.hid fun W => by have := HIX.out W; rw [if_neg hr] at this; exact this
        have hmin : (if IntKind.u64.wrap ((k : Int) + (m : Int)) < IntKind.u64.wrap (k : Int) then IntKind.u64.wrap ((k : Int) + (m : Int)) else IntKind.u64.wrap (k : Int)) = (k : Int) := by
          have e1 : IntKind.u64.wrap (k : Int) = (k : Int) := by rw [IntKind.wrap_u64]; omega
          have e2 : IntKind.u64.wrap ((k : Int) + (m : Int)) = (k : Int) + (m : Int) := by rw [IntKind.wrap_u64]; omega
          rw [e1, e2, if_neg (by omega)]
        clear hr
        gi_region_with (refine ⟨trivial, (fun h => by cases h), (callsIn_wide.2 (HIX2.out _)).mono ?_⟩; rintro e w' ⟨rfl, rfl⟩)
        all_goals
          try simp only [hmin]
          gi_wp2
          refine ⟨trivial, (fun h => by cases h), (callsIn_wide.2 (HUN.out _)).mono ?_⟩
          rintro e w3 ⟨rfl, hb3⟩
          obtain ⟨j3, b3⟩ := HFIN.out w3 hb3
          obtain ⟨fn, tmps, assign, body, hy, hR⟩ := HYT.out w3 j3 b3
          clear hb3
          try dsimp only at hy
          gi_wp2
          refine ⟨(fun h => by cases h), hR.mono ?_⟩
          rintro e w4 ⟨rfl, hj4, hk4⟩
          have b4 : Boxed w4 Bp 40 (.string Q1) := hk4.trans b3
          have c4 := b4.cell
          have f4 := b4.frozen
          have b5 := b4.set (.string (strL (ptrOf r)))
          have j5 := HJ.out (pre ++ [t]) w4 _ (some Bp) hj4 (grownBy_setCell' w4 Bp (.string (strL (ptrOf r)))) (fun r e => by cases e; rfl)
          have c5 := boxLen_of b5.cell
          clear hy hR hj4 hk4 j3 b3 jD bD
          gi_wp2
          exact ⟨⟨pre ++ [t], r, HXX.out, b5, j5⟩, by rw [c5, HBL.out, strL_size]; omega⟩
end Go.Proofs.Ytegfdgmbhnfeeaa
