/- The reference on a whole text: Parse and Taken by encoding/json's rules, walked. -/
import Derived.Test.YtklncgmfbflooaaDoorRdValue
namespace Go.Proofs.YtklncgmfbflooaaDoor
open Go.RowKit
def OutPost (s : ByteArray) (w : World) (e : Ending) (w' : World) : Prop :=
  ∃ (c : Int) (t : ByteArray) (p1 : Option Addr) (l1 q1 : Nat) (p2 : Option Addr) (l2 q2 : Nat) (ff : Int) (kk : Nat),
    e = .returned (.tuple #[.agg #[.int .u8 c, .string t, .slice p1 l1 q1, .slice p2 l2 q2], .agg #[.int .i64 ff, .int .i64 kk, .bool false]]) ∧ Hid (ff = 0 ↔ takenB s.data.toList = true) ∧ Below w.heap.size w w'
/-- The cells of what reading came to, as a result. -/
structure OutAt (w : World) (C : Nat) : Prop where
  ex : ∃ a b d, w.cell? ⟨C, 0, none⟩ = some (.int .i64 a) ∧ w.cell? ⟨C, 1, none⟩ = some (.int .i64 b) ∧ w.cell? ⟨C, 2, none⟩ = some (.bool d)
  fz : ∀ j, w.frozen? ⟨C, j, none⟩ = false
  lt : C < w.heap.size
theorem OutAt.kept {w w' : World} {C : Nat} (h : OutAt w C) (hb : w'.heap[C]? = w.heap[C]?) (hs : w.heap.size ≤ w'.heap.size) : OutAt w' C := by
  obtain ⟨⟨a, b, d, h0, h1, h2⟩, f, l⟩ := h
  exact ⟨⟨a, b, d, (World.cell?_of_block (a := ⟨C, 0, none⟩) hb).trans h0, (World.cell?_of_block (a := ⟨C, 1, none⟩) hb).trans h1, (World.cell?_of_block (a := ⟨C, 2, none⟩) hb).trans h2⟩,
    fun j => (World.frozen?_of_block (a := ⟨C, j, none⟩) hb).trans (f j), Nat.lt_of_lt_of_le l hs⟩
theorem ResAt.alloc {w : World} {C : Nat} (h : ResAt w C) (o : Obj) : ResAt (w.alloc o) C := h.kept ((World.grownBy_alloc w o none).block _ h.lt (by simp)) (by simp)
theorem OutAt.alloc {w : World} {C : Nat} (h : OutAt w C) (o : Obj) : OutAt (w.alloc o) C := h.kept ((World.grownBy_alloc w o none).block _ h.lt (by simp)) (by simp)
theorem ResAt.new {w : World} {n : Nat} (hn : w.heap.size = n) (t : TypeId) : ResAt (w.alloc (Obj.cells #[.int .u8 0, .string ⟨#[]⟩, .slice none 0 0, .slice none 0 0] t)) n := by
  subst hn
  exact ⟨⟨0, ⟨#[]⟩, none, 0, 0, none, 0, 0, by simp, by simp, by simp, by simp⟩, fun j => by simp, by simp⟩
theorem OutAt.new {w : World} {n : Nat} (hn : w.heap.size = n) (t : TypeId) : OutAt (w.alloc (Obj.cells #[.int .i64 0, .int .i64 0, .bool false] t)) n := by
  subst hn
  exact ⟨⟨0, 0, false, by simp, by simp, by simp⟩, fun j => by simp, by simp⟩
theorem RdAt.new {w : World} {n : Nat} (hn : w.heap.size = n) (s : ByteArray) (tw lo : Bool) (t : TypeId) : RdAt (w.alloc (Obj.cells #[.string s, .int .i64 0, .bool tw, .bool lo, .int .i64 0, .bool false] t)) n s 0 tw lo 0 false := by
  subst hn
  refine ⟨?_, ?_, ?_, ?_, ?_, ?_, ?_, ?_⟩
  all_goals simp
theorem below_drew {B : Nat} {a b : World} (h : Below B a b) : Below B a b.drew := ⟨h.os, h.tape, h.output, h.size, h.block⟩
theorem below_drewN {B : Nat} {a b : World} (h : Below B a b) (n : Nat) : Below B a (b.drewN n) := ⟨h.os, h.tape, h.output, h.size, h.block⟩
theorem oldRules (w : World) : Calls Tryd.prog 9 #[] w fun e w' => e = .returned (.agg #[.bool true, .bool true]) ∧ Below w.heap.size w w' := by
  go_enter Tryd.func9, Tryd.ntmps9
  go_wp2
  exact bodyPost_ret (v := .agg #[.bool true, .bool true]) (by simp [results, Tryd.results9, go_sem]) rfl ⟨rfl, (Below.refl _ _).alloc (Nat.le_refl _) _⟩
set_option maxRecDepth 100000 in
set_option maxHeartbeats 4000000 in
theorem parseS (s : ByteArray) (w : World) (hs : s.size ≤ 2147483647) :
    Calls Tryd.prog 23 #[.string s, .agg #[.bool true, .bool true]] w (OutPost s w) := by
  have hs' : s.size ≤ 140737488355328 := by omega
  have HVAL : Hid (∀ R W, RdAt W R s 0 true true 0 false → Calls Tryd.prog 40 #[.pointer (some ⟨R, 0, none⟩)] W (VP (pV s.data.toList 0) R s 0 0 false W)) := Lib.hid fun R W a => valueS s.size R s 0 0 false W a hs (Nat.zero_le _) (by omega)
  have HSP : Hid (∀ R k W, RdAt W R s k true true 0 false → k ≤ s.size → Calls Tryd.prog 41 #[.pointer (some ⟨R, 0, none⟩)] W (SpacePost R s (spN s.data.toList k) true true 0 false W)) := Lib.hid fun R k W a b => spaceS R s k true true 0 false W a hs' b
  have HFL : Hid (∀ R k W, RdAt W R s k true true 0 false → k ≤ s.size → Calls Tryd.prog 42 #[.pointer (some ⟨R, 0, none⟩), .int .i64 4] W (NoPost R s k true true false W)) := Lib.hid fun R k W a b => failNo R s k true true 0 false 4 (by decide) W a b
  have HT : Hid (takenB s.data.toList = decide (¬ pV s.data.toList 0 = 0 ∧ spN s.data.toList (pV s.data.toList 0) = s.size)) := Lib.hid (by unfold takenB; rw [size_list])
  have HR : Hid (¬ pV s.data.toList 0 = 0 → pV s.data.toList 0 ≤ s.size ∧ spN s.data.toList (pV s.data.toList 0) ≤ s.size) := Lib.hid fun q => by
    have h1 := (pV_range (Nat.zero_le _) q).2
    have h2 := (spN_range h1).2
    rw [size_list] at h1 h2
    exact ⟨h1, h2⟩
  have HR0 : Hid (RdAt ((((w.alloc (Obj.cells #[.bool true, .bool true] 25)).alloc (Obj.cells #[.int .u8 0, .string ⟨#[]⟩, .slice none 0 0, .slice none 0 0] 48)).alloc (Obj.cells #[.int .i64 0, .int .i64 0, .bool false] 50)).alloc (Obj.cells #[.string s, .int .i64 0, .bool true, .bool true, .int .i64 0, .bool false] 74)) (w.heap.size + 1 + 1 + 1) s 0 true true 0 false) := Lib.hid (RdAt.new (by simp) _ _ _ _)
  have HC0 : Hid (ResAt ((((w.alloc (Obj.cells #[.bool true, .bool true] 25)).alloc (Obj.cells #[.int .u8 0, .string ⟨#[]⟩, .slice none 0 0, .slice none 0 0] 48)).alloc (Obj.cells #[.int .i64 0, .int .i64 0, .bool false] 50)).alloc (Obj.cells #[.string s, .int .i64 0, .bool true, .bool true, .int .i64 0, .bool false] 74)) (w.heap.size + 1)) := Lib.hid (((ResAt.new (by simp) _).alloc _).alloc _)
  have HO0 : Hid (OutAt ((((w.alloc (Obj.cells #[.bool true, .bool true] 25)).alloc (Obj.cells #[.int .u8 0, .string ⟨#[]⟩, .slice none 0 0, .slice none 0 0] 48)).alloc (Obj.cells #[.int .i64 0, .int .i64 0, .bool false] 50)).alloc (Obj.cells #[.string s, .int .i64 0, .bool true, .bool true, .int .i64 0, .bool false] 74)) (w.heap.size + 1 + 1)) := Lib.hid ((OutAt.new (by simp) _).alloc _)
  have HB0 : Hid (Below w.heap.size w ((((w.alloc (Obj.cells #[.bool true, .bool true] 25)).alloc (Obj.cells #[.int .u8 0, .string ⟨#[]⟩, .slice none 0 0, .slice none 0 0] 48)).alloc (Obj.cells #[.int .i64 0, .int .i64 0, .bool false] 50)).alloc (Obj.cells #[.string s, .int .i64 0, .bool true, .bool true, .int .i64 0, .bool false] 74))) := Lib.hid (((((Below.refl _ _).alloc (Nat.le_refl _) _).alloc (by simp) _).alloc (by simp; omega) _).alloc (by simp; omega) _)
  unfold OutPost
  generalize takenB s.data.toList = T at HT ⊢
  generalize pV s.data.toList 0 = p at HVAL HT HR
  clear hs'
  go_enter Tryd.func23, Tryd.ntmps23
  go_wp2_with fail
  generalize ((((w.alloc (Obj.cells #[.bool true, .bool true] 25)).alloc (Obj.cells #[.int .u8 0, .string ⟨#[]⟩, .slice none 0 0, .slice none 0 0] 48)).alloc (Obj.cells #[.int .i64 0, .int .i64 0, .bool false] 50)).alloc (Obj.cells #[.string s, .int .i64 0, .bool true, .bool true, .int .i64 0, .bool false] 74)) = W0 at HR0 HC0 HO0 HB0 ⊢
  refine (HVAL.out _ _ HR0.out).mono ?_
  rintro e w1 ⟨c3, t3, p1, l1, q1, p2, l2, q2, hcase, g1⟩
  have HB1 := Lib.hid (HB0.out.grown g1 HB0.out.size (fun k e => by have := Option.some.inj e; omega))
  have HC1 := Lib.hid (HC0.out.kept (g1.block _ HC0.out.lt (fun e => by have := Option.some.inj e; omega)) g1.size)
  have HO1 := Lib.hid (HO0.out.kept (g1.block _ HO0.out.lt (fun e => by have := Option.some.inj e; omega)) g1.size)
  have hlt1 := HO1.out.lt
  clear g1 HVAL HR0 HC0 HO0 HB0
  obtain ⟨b, ke, fe, rfl, hRd, hke, hb1, hb0⟩ : ∃ (b : Bool) (ke : Nat) (fe : Int), e = .returned (.tuple #[.agg #[.int .u8 c3, .string t3, .slice p1 l1 q1, .slice p2 l2 q2], .bool b]) ∧ RdAt w1 (w.heap.size + 1 + 1 + 1) s ke true true fe false ∧ ke ≤ s.size ∧ (b = true → ¬ p = 0 ∧ ke = p ∧ fe = 0) ∧ (b = false → p = 0 ∧ ¬ fe = 0) := by
    rcases hcase with ⟨hp, rfl, h1⟩ | ⟨hp, rfl, k', f', _, hk', hf', h1⟩
    · exact ⟨true, p, 0, rfl, h1, (HR.out hp).1, fun _ => ⟨hp, rfl, rfl⟩, fun q => by cases q⟩
    · exact ⟨false, k', f', rfl, h1, hk', (fun q => by cases q), fun _ => ⟨hp, hf'⟩⟩
  have H2 := Lib.hid (hRd.alloc (Obj.cells #[.int .u8 c3, .string t3, .slice p1 l1 q1, .slice p2 l2 q2] 48))
  have HB2 := Lib.hid (HB1.out.alloc HB1.out.size (Obj.cells #[.int .u8 c3, .string t3, .slice p1 l1 q1, .slice p2 l2 q2] 48))
  have HC2 := Lib.hid (HC1.out.kept (w' := w1.alloc (Obj.cells #[.int .u8 c3, .string t3, .slice p1 l1 q1, .slice p2 l2 q2] 48)) ((World.grownBy_alloc w1 _ none).block _ HC1.out.lt (by simp)) (by simp))
  have HO2 := Lib.hid (HO1.out.kept (w' := w1.alloc (Obj.cells #[.int .u8 c3, .string t3, .slice p1 l1 q1, .slice p2 l2 q2] 48)) ((World.grownBy_alloc w1 _ none).block _ HO1.out.lt (by simp)) (by simp))
  have HK2 : Hid ((w1.alloc (Obj.cells #[.int .u8 c3, .string t3, .slice p1 l1 q1, .slice p2 l2 q2] 48)).cell? ⟨w1.heap.size, 0, none⟩ = some (.int .u8 c3) ∧ (w1.alloc (Obj.cells #[.int .u8 c3, .string t3, .slice p1 l1 q1, .slice p2 l2 q2] 48)).cell? ⟨w1.heap.size, 1, none⟩ = some (.string t3) ∧ (w1.alloc (Obj.cells #[.int .u8 c3, .string t3, .slice p1 l1 q1, .slice p2 l2 q2] 48)).cell? ⟨w1.heap.size, 2, none⟩ = some (.slice p1 l1 q1) ∧ (w1.alloc (Obj.cells #[.int .u8 c3, .string t3, .slice p1 l1 q1, .slice p2 l2 q2] 48)).cell? ⟨w1.heap.size, 3, none⟩ = some (.slice p2 l2 q2) ∧ w1.heap.size < (w1.alloc (Obj.cells #[.int .u8 c3, .string t3, .slice p1 l1 q1, .slice p2 l2 q2] 48)).heap.size) := Lib.hid (by simp)
  have HB1' := Lib.hid hb1
  have HB0' := Lib.hid hb0
  have hRlt := hRd.lt
  clear hcase hRd HB1 HC1 HO1 hb1 hb0
  go_upto_if 16 with fail
  generalize w1.alloc (Obj.cells #[.int .u8 c3, .string t3, .slice p1 l1 q1, .slice p2 l2 q2] 48) = w2 at H2 HB2 HC2 HO2 HK2 ⊢
  go_cut [] (fun wx => ∃ (kk : Nat) (ff : Int), Hid (RdAt wx (w.heap.size + 1 + 1 + 1) s kk true true ff false) ∧ Hid (w2.grownBy wx (some (w.heap.size + 1 + 1 + 1))) ∧ Hid (ff = 0 ↔ T = true))
  case first =>
    have hne : w.heap.size + 1 + 1 + 1 < w2.heap.size := H2.out.lt
    cases b
    · obtain ⟨z1, z2⟩ := HB0'.out rfl
      have hT : fe = 0 ↔ T = true := by rw [HT.out]; simp [z1, z2]
      have HT2 := Lib.hid hT
      clear hT z1 z2
      go_wp2
      go_meet
      exact ⟨ke, fe, H2, Lib.hid (grown_refl _ _), HT2⟩
    · obtain ⟨z1, rfl, rfl⟩ := HB1'.out rfl
      have hr := HR.out z1
      have HSk := Lib.hid (HSP.out (w.heap.size + 1 + 1 + 1) ke)
      have hT : T = true ↔ spN s.data.toList ke = s.size := by rw [HT.out]; simp [z1]
      have HT2 := Lib.hid hT
      clear hT z1
      generalize spN s.data.toList ke = k5 at hr HSk HT2
      have HFk := Lib.hid (HFL.out (w.heap.size + 1 + 1 + 1) k5)
      clear HSP HFL HT HR HB1' HB0'
      go_wp2_with fail
      refine (HSk.out _ H2.out hr.1).mono ?_
      rintro e w3 ⟨rfl, h3, g3⟩
      have H3 := Lib.hid h3
      have G3 := Lib.hid g3
      have r0 := h3.c0
      have r1 := h3.c1
      clear h3 g3 HSk
      by_cases q : k5 < s.size
      · have hq : (k5 : Int) < (s.size : Int) := by omega
        go_wp2_with fail
        refine (HFk.out _ H3.out hr.2).mono ?_
        rintro e w4 ⟨rfl, ⟨k', f', _, _, n4, h4⟩, g4⟩
        have H4 := Lib.hid h4
        have G4 := Lib.hid (grown_trans G3.out g4)
        have hT : f' = 0 ↔ T = true := by rw [HT2.out]; exact ⟨fun z => absurd z n4, fun z => by omega⟩
        have HT3 := Lib.hid hT
        clear h4 g4 hT
        go_wp2
        go_meet
        exact ⟨k', f', H4, G4, HT3⟩
      · have hq : ¬ (k5 : Int) < (s.size : Int) := by omega
        have hq2 : k5 = s.size := by omega
        go_wp2
        go_meet
        exact ⟨k5, 0, H3, G3, Lib.hid ⟨fun _ => HT2.out.2 hq2, fun _ => rfl⟩⟩
  case rest =>
    obtain ⟨kk, ff, hR3, hG3, hT3⟩ := hcut
    have HC3 := HC2.out.kept (hG3.out.block _ HC2.out.lt (fun e => by have := Option.some.inj e; omega)) hG3.out.size
    have HO3 := HO2.out.kept (hG3.out.block _ HO2.out.lt (fun e => by have := Option.some.inj e; omega)) hG3.out.size
    have hKb := hG3.out.block w1.heap.size HK2.out.2.2.2.2 (fun e => by have := Option.some.inj e; omega)
    have hKlt : w1.heap.size < wc.heap.size := Nat.lt_of_lt_of_le HK2.out.2.2.2.2 hG3.out.size
    have x0 := (World.cell?_of_block (a := ⟨w1.heap.size, 0, none⟩) hKb).trans HK2.out.1
    have x1 := (World.cell?_of_block (a := ⟨w1.heap.size, 1, none⟩) hKb).trans HK2.out.2.1
    have x2 := (World.cell?_of_block (a := ⟨w1.heap.size, 2, none⟩) hKb).trans HK2.out.2.2.1
    have x3 := (World.cell?_of_block (a := ⟨w1.heap.size, 3, none⟩) hKb).trans HK2.out.2.2.2.1
    have HB3 := Lib.hid (HB2.out.grown hG3.out HB2.out.size (fun k e => by have := Option.some.inj e; omega))
    have r1 := hR3.out.c1
    have r4 := hR3.out.c4
    have r5 := hR3.out.c5
    obtain ⟨⟨cc, ct, cp1, cl1, cq1, cp2, cl2, cq2, z0, z1, z2, z3⟩, zf, zl⟩ := HC3
    obtain ⟨⟨oa, ob, od, o0, o1, o2⟩, of', ol⟩ := HO3
    have zf0 := zf 0
    have zf1 := zf 1
    have zf2 := zf 2
    have zf3 := zf 3
    have of0 := of' 0
    have of1 := of' 1
    have of2 := of' 2
    have hlt1' : w.heap.size + 1 + 1 < w1.heap.size := hlt1
    clear H2 HB2 HC2 HO2 HK2 zf of' hKb HSP HFL HT HR HB1' HB0' hG3 hR3 hlt1
    have y1 : ¬ w.heap.size + 1 = w1.heap.size := by omega
    have y2 : ¬ w.heap.size + 1 + 1 = w1.heap.size := by omega
    go_wp2_with fail
    go_region_held3 (fun w' => w'.cell? ⟨w1.heap.size, 0, none⟩ = some (.int .u8 c3) ∧ w'.cell? ⟨w1.heap.size, 1, none⟩ = some (.string t3) ∧ w'.cell? ⟨w1.heap.size, 2, none⟩ = some (.slice p1 l1 q1) ∧ w'.cell? ⟨w1.heap.size, 3, none⟩ = some (.slice p2 l2 q2) ∧ w'.cell? ⟨w.heap.size + 1 + 1 + 1, 1, none⟩ = some (.int .i64 kk) ∧ w'.cell? ⟨w.heap.size + 1 + 1 + 1, 4, none⟩ = some (.int .i64 ff) ∧ w'.cell? ⟨w.heap.size + 1 + 1 + 1, 5, none⟩ = some (.bool false)) (go_keep) (fail)
    go_wp2
    refine bodyPost_ret (v := .tuple #[.agg #[.int .u8 c3, .string t3, .slice p1 l1 q1, .slice p2 l2 q2], .agg #[.int .i64 ff, .int .i64 kk, .bool false]]) (by simp [results, Tryd.results23, go_sem, *]) rfl ?_
    refine ⟨c3, t3, p1, l1, q1, p2, l2, q2, ff, kk, rfl, hT3, ?_⟩
    have hb := ((((((HB3.out.setCell (p := ⟨w.heap.size + 1, 0, none⟩) (by show w.heap.size ≤ w.heap.size + 1; omega) (.int .u8 c3)).setCell (p := ⟨w.heap.size + 1, 1, none⟩) (by show w.heap.size ≤ w.heap.size + 1; omega) (.string t3)).setCell (p := ⟨w.heap.size + 1, 2, none⟩) (by show w.heap.size ≤ w.heap.size + 1; omega) (.slice p1 l1 q1)).setCell (p := ⟨w.heap.size + 1, 3, none⟩) (by show w.heap.size ≤ w.heap.size + 1; omega) (.slice p2 l2 q2)).setCell (p := ⟨w.heap.size + 1 + 1, 0, none⟩) (by show w.heap.size ≤ w.heap.size + 1 + 1; omega) (.int .i64 ff)).setCell (p := ⟨w.heap.size + 1 + 1, 1, none⟩) (by show w.heap.size ≤ w.heap.size + 1 + 1; omega) (.int .i64 kk)).setCell (p := ⟨w.heap.size + 1 + 1, 2, none⟩) (by show w.heap.size ≤ w.heap.size + 1 + 1; omega) (.bool false)
    exact below_drew hb
set_option maxRecDepth 100000 in
theorem takenS (s : ByteArray) (w : World) (hs : s.size ≤ 2147483647) :
    Calls Tryd.prog 8 #[.string s, .agg #[.bool true, .bool true]] w fun e w' => e = .returned (.tuple #[.bool (takenB s.data.toList), .bool true]) ∧ Below w.heap.size w w' := by
  have HP : Hid (∀ W, Calls Tryd.prog 23 #[.string s, .agg #[.bool true, .bool true]] W (OutPost s W)) := Lib.hid fun W => parseS s W hs
  obtain ⟨T, hTe⟩ : ∃ T, T = takenB s.data.toList := ⟨_, rfl⟩
  rw [← hTe]
  have HTE := Lib.hid hTe
  clear hTe
  go_enter Tryd.func8, Tryd.ntmps8
  go_wp2_with fail
  refine (HP.out _).mono ?_
  rintro e w1 ⟨c3, t3, p1, l1, q1, p2, l2, q2, ff, kk, rfl, hT, hb⟩
  have HB := Lib.hid (((Below.refl w.heap.size w).alloc (Nat.le_refl _) _).trans (hb.mono (by simp)))
  have hF : (ff == 0) = T := by
    have := hT.out
    rw [← HTE.out] at this
    cases T
    · simp; exact fun z => by have := this.1 z; cases this
    · simp; exact this.2 rfl
  clear hT hb HP HTE
  go_wp2
  go_quiet (fail)
  go_wp2
  go_ret2
  exact ⟨rfl, below_drewN ((HB.out.alloc HB.out.size _).alloc (by have := HB.out.size; simp; omega) _) _⟩
end Go.Proofs.YtklncgmfbflooaaDoor
