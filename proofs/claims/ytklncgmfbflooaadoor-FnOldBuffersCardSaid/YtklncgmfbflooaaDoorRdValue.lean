/- The reference's reader: a value, and a whole text, walked: whether encoding/json's rules take it. -/
import Derived.Test.YtklncgmfbflooaaDoorRdObject
import Derived.Test.YtklncgmfbflooaaDoorRdArray
import Derived.Test.YtklncgmfbflooaaDoorRdScalar
namespace Go.Proofs.YtklncgmfbflooaaDoor
open Go.RowKit
/-- The cell of a node that is a result. -/
structure ResAt (w : World) (C : Nat) : Prop where
  ex : ∃ c t p1 l1 q1 p2 l2 q2, w.cell? ⟨C, 0, none⟩ = some (.int .u8 c) ∧ w.cell? ⟨C, 1, none⟩ = some (.string t) ∧ w.cell? ⟨C, 2, none⟩ = some (.slice p1 l1 q1) ∧ w.cell? ⟨C, 3, none⟩ = some (.slice p2 l2 q2)
  fz : ∀ j, w.frozen? ⟨C, j, none⟩ = false
  lt : C < w.heap.size
theorem ResAt.kept {w w' : World} {C : Nat} (h : ResAt w C) (hb : w'.heap[C]? = w.heap[C]?) (hs : w.heap.size ≤ w'.heap.size) : ResAt w' C := by
  obtain ⟨⟨c, t, p1, l1, q1, p2, l2, q2, h0, h1, h2, h3⟩, f, l⟩ := h
  exact ⟨⟨c, t, p1, l1, q1, p2, l2, q2, (World.cell?_of_block (a := ⟨C, 0, none⟩) hb).trans h0, (World.cell?_of_block (a := ⟨C, 1, none⟩) hb).trans h1, (World.cell?_of_block (a := ⟨C, 2, none⟩) hb).trans h2, (World.cell?_of_block (a := ⟨C, 3, none⟩) hb).trans h3⟩,
    fun j => (World.frozen?_of_block (a := ⟨C, j, none⟩) hb).trans (f j), Nat.lt_of_lt_of_le l hs⟩
theorem val_grown {w w3 w4 : World} {R N B : Nat} (h : w.grownBy w3 (some R)) (g : Gr2 B w3 w4 R N) (hN : w.heap.size ≤ N) (hB : N < B) : w.grownBy w4 (some R) :=
  ⟨g.os.trans h.os, g.tape.trans h.tape, g.output.trans h.output, Nat.le_trans h.size g.size, fun i hi hne => (g.block i (by omega) (fun e => hne (by rw [e])) (by omega)).trans (h.block i hi hne)⟩
theorem grown_setFar {a b : World} {R : Nat} (h : a.grownBy b (some R)) (q : Addr) (hq : a.heap.size ≤ q.block) (v : Value) : a.grownBy (b.setCell q v) (some R) :=
  ⟨h.os, h.tape, h.output, by simpa [World.setCell] using h.size, fun i hi hne => (Below.heap_setCell _ _ _ _ (by omega)).trans (h.block i hi hne)⟩
theorem node_new (w : World) (c : Int) : NodeAt (w.alloc (Obj.cells #[.int .u8 c, .string ⟨#[]⟩, .slice none 0 0, .slice none 0 0] 48)) w.heap.size (w.heap.size + 1) 0 := by
  refine ⟨⟨c, ⟨#[]⟩, .slice none 0 0, .slice none 0 0, 0, 0, [], [], by simp, by simp, by simp, by simp, World.ownsRow_nil _ _ _ _, World.ownsRow_nil _ _ _ _, Nat.le_refl _, Nat.le_refl _, fun g h => by cases h⟩, fun j => by simp, Nat.lt_succ_self _, by simp⟩
theorem NodeAt.val {w : World} {N B m : Nat} (h : NodeAt w N B m) : ∃ c t p1 l1 q1 p2 l2 q2, w.cell? ⟨N, 0, none⟩ = some (.int .u8 c) ∧ w.cell? ⟨N, 1, none⟩ = some (.string t) ∧ w.cell? ⟨N, 2, none⟩ = some (.slice p1 l1 q1) ∧ w.cell? ⟨N, 3, none⟩ = some (.slice p2 l2 q2) := by
  obtain ⟨⟨c, t, vn, vk, nn, nk, xs, ys, h1, h2, h3, h4, h5, h6, _⟩, _⟩ := h
  obtain ⟨p1, q1, rfl⟩ := ownsRow_form h5
  obtain ⟨p2, q2, rfl⟩ := ownsRow_form h6
  exact ⟨c, t, p1, nn, q1, p2, nk, q2, h1, h2, h3, h4⟩
set_option maxRecDepth 100000 in
set_option maxHeartbeats 4000000 in
theorem valueS (n R : Nat) (s : ByteArray) (k0 : Nat) (f : Int) (op : Bool) (w : World) (h : RdAt w R s k0 true true f op) (hs : s.size ≤ 2147483647) (hk0 : k0 ≤ s.size) (hn : s.size ≤ k0 + n) :
    Calls Tryd.prog 40 #[.pointer (some ⟨R, 0, none⟩)] w (VP (pV s.data.toList k0) R s k0 f op w) := by
  induction n using Nat.strongRecOn generalizing k0 w with
  | ind n ih =>
  have hs' : s.size ≤ 140737488355328 := by omega
  have HIH : Hid (∀ m, m < n → ∀ k W, RdAt W R s k true true f op → k ≤ s.size → s.size ≤ k + m → Calls Tryd.prog 40 #[.pointer (some ⟨R, 0, none⟩)] W (VP (pV s.data.toList k) R s k f op W)) := Lib.hid fun m hm k W a b c => ih m hm k W a b c
  have HSP : Hid (∀ W, RdAt W R s k0 true true f op → Calls Tryd.prog 41 #[.pointer (some ⟨R, 0, none⟩)] W (SpacePost R s (spN s.data.toList k0) true true f op W)) := Lib.hid fun W a => spaceS R s k0 true true f op W a hs' hk0
  have HSEE : Hid (∀ k W, RdAt W R s k true true f op → k ≤ s.size → Calls Tryd.prog 58 #[.pointer (some ⟨R, 0, none⟩)] W (ValPost (.int .u8 (seeP s.data.toList k)) R s k true true f op W)) := Lib.hid fun k W a b => see R s k true true f op W a hs' b
  have HV : Hid (pV s.data.toList k0 = if seeP s.data.toList (spN s.data.toList k0) = 123 then openN s.data.toList 125 (pO s.data.toList) (spN s.data.toList k0 + 1) else if seeP s.data.toList (spN s.data.toList k0) = 91 then openN s.data.toList 93 (pA s.data.toList) (spN s.data.toList k0 + 1) else scaN s.data.toList (spN s.data.toList k0)) := Lib.hid (pV_eq (by rw [size_list]; exact hk0))
  have hr := spN_range (l := s.data.toList) (k := k0) (by rw [size_list]; exact hk0)
  rw [size_list] at hr
  generalize pV s.data.toList k0 = v at HV ⊢
  have hRw := h.lt
  have H0 := Lib.hid (h.alloc (Obj.cells #[.int .u8 0, .string ⟨#[]⟩, .slice none 0 0, .slice none 0 0] 48))
  have G0 := Lib.hid (World.grownBy_alloc w (Obj.cells #[.int .u8 0, .string ⟨#[]⟩, .slice none 0 0, .slice none 0 0] 48) (some R))
  have HC0 : Hid (ResAt (w.alloc (Obj.cells #[.int .u8 0, .string ⟨#[]⟩, .slice none 0 0, .slice none 0 0] 48)) w.heap.size) := Lib.hid ⟨⟨0, ⟨#[]⟩, none, 0, 0, none, 0, 0, by simp, by simp, by simp, by simp⟩, fun j => by simp, by simp⟩
  clear h ih hs'
  go_enter Tryd.func40, Tryd.ntmps40
  go_wp2_with fail
  refine (HSP.out _ H0.out).mono ?_
  rintro e w1 ⟨rfl, h1, g1⟩
  have H1 := Lib.hid h1
  have G1 := Lib.hid (grown_trans G0.out g1)
  have HC1 := Lib.hid (HC0.out.kept (g1.block _ HC0.out.lt (fun e => by have := Option.some.inj e; omega)) g1.size)
  clear h1 g1 H0 G0 HC0 HSP
  generalize spN s.data.toList k0 = k1 at H1 hr HV
  go_wp2_with fail
  refine (HSEE.out k1 _ H1.out hr.2).mono ?_
  rintro e w2 ⟨rfl, h2, g2⟩
  have H2 := Lib.hid h2
  have G2 := Lib.hid (grown_trans G1.out g2)
  have HC2 := Lib.hid (HC1.out.kept (g2.block _ HC1.out.lt (fun e => by have := Option.some.inj e; omega)) g2.size)
  have hlt : ¬ seeP s.data.toList k1 = 0 → k1 < s.size := fun q => by have := seeP_ltL q; rwa [size_list] at this
  clear h2 g2 H1 G1 HC1
  generalize seeP s.data.toList k1 = c at HV hlt
  have hsz : w.heap.size + 1 ≤ w2.heap.size := by have := HC2.out.lt; omega
  have HN3 := Lib.hid (node_new w2 c)
  have H3 := Lib.hid (H2.out.alloc (Obj.cells #[.int .u8 c, .string ⟨#[]⟩, .slice none 0 0, .slice none 0 0] 48))
  have G3 := Lib.hid (grow_trans G2.out (World.grownBy_alloc w2 (Obj.cells #[.int .u8 c, .string ⟨#[]⟩, .slice none 0 0, .slice none 0 0] 48) (some R)))
  have HC3 := Lib.hid (HC2.out.kept (w' := w2.alloc (Obj.cells #[.int .u8 c, .string ⟨#[]⟩, .slice none 0 0, .slice none 0 0] 48)) ((World.grownBy_alloc w2 (Obj.cells #[.int .u8 c, .string ⟨#[]⟩, .slice none 0 0, .slice none 0 0] 48) none).block _ HC2.out.lt (by simp)) (by simp))
  have hRN : R < w2.heap.size + 1 := by omega
  have hNR : ¬ w2.heap.size = R := by omega
  clear H2 G2 HC2
  by_cases q123 : c = 123
  · subst q123
    have hlt1 := hlt (by decide)
    have hv : v = openN s.data.toList 125 (pO s.data.toList) (k1 + 1) := by rw [HV.out, if_pos rfl]
    have c1 := H3.out.c1
    have f1 := H3.out.fz 1
    obtain ⟨m, rfl⟩ : ∃ m, n = m + 1 := ⟨n - 1, by omega⟩
    have HM := Lib.hid (HIH.out m (Nat.lt_succ_self m))
    have GI := Lib.hid ((Gr2.refl (w2.heap.size + 1) _ R w2.heap.size).set (b := w2.alloc (Obj.cells #[.int .u8 123, .string ⟨#[]⟩, .slice none 0 0, .slice none 0 0] 48)) (.int .i64 ((k1 : Int) + 1)) (q := ⟨R, 1, none⟩) (.inl rfl))
    have G3' := Lib.hid (grown_set G3.out 1 (.int .i64 ((k1 : Int) + 1)))
    have HC3' := Lib.hid (HC3.out.kept (Below.heap_setCell (w2.alloc (Obj.cells #[.int .u8 123, .string ⟨#[]⟩, .slice none 0 0, .slice none 0 0] 48)) ⟨R, 1, none⟩ (.int .i64 ((k1 : Int) + 1)) w.heap.size (by show w.heap.size ≠ R; omega)) (by simp [World.setCell]))
    have HOB := Lib.hid (objectS m R w2.heap.size (w2.heap.size + 1) s (k1 + 1) f op _ H3.out.inc ((HN3.out.reader hRN hNR 1 (.int .i64 ((k1 : Int) + 1))).mono (Nat.zero_le _)) hRN hNR hs hlt1 (by omega) HM)
    clear HN3 H3 G3 HC3 HM GI
    have G3 := G3'
    have HC3 := HC3'
    clear G3' HC3'
    go_wp2_with fail
    refine HOB.out.mono ?_
    have HV4 := Lib.hid hv
    rintro e w4 ⟨hcase, g4⟩
    have GG := Lib.hid (val_grown G3.out g4 (by omega) (Nat.lt_succ_self _))
    have HC4 := HC3.out.kept (g4.block w.heap.size (by omega) (by omega) (by omega)) g4.size
    obtain ⟨⟨cc, ct, cp1, cl1, cq1, cp2, cl2, cq2, z0, z1, z2, z3⟩, zf, zl⟩ := HC4
    have zf0 := zf 0
    have zf1 := zf 1
    have zf2 := zf 2
    have zf3 := zf 3
    clear g4 zf hv HV G3 HC3 HIH HSEE hlt
    rcases hcase with ⟨ok, rfl, h4, n4⟩ | ⟨ok, rfl, k4, f4, le4, hk4, ne4, h4, n4⟩
    · obtain ⟨nc, nt, np1, nl1, nq1, np2, nl2, nq2, n0, n1, n2, n3⟩ := n4.val
      have H4 := Lib.hid h4
      have OK := Lib.hid ok
      clear h4 n4 ok
      go_wp2
      refine bodyPost_ret (v := .tuple #[.agg #[.int .u8 nc, .string nt, .slice np1 nl1 nq1, .slice np2 nl2 nq2], .bool true]) (by simp [results, Tryd.results40, go_sem, *]) rfl ?_
      refine ⟨nc, nt, np1, nl1, nq1, np2, nl2, nq2, .inl ⟨by rw [HV4.out]; exact OK.out, rfl, ?_⟩, ?_⟩
      · rw [HV4.out]
        exact (((H4.out.far _ (by show ¬ w.heap.size = R; omega) _).far _ (by show ¬ w.heap.size = R; omega) _).far _ (by show ¬ w.heap.size = R; omega) _).far _ (by show ¬ w.heap.size = R; omega) _
      · exact grown_setFar (grown_setFar (grown_setFar (grown_setFar GG.out _ (Nat.le_refl _) _) _ (Nat.le_refl _) _) _ (Nat.le_refl _) _) _ (Nat.le_refl _) _
    · obtain ⟨nc, nt, np1, nl1, nq1, np2, nl2, nq2, n0, n1, n2, n3⟩ := n4.val
      have H4 := Lib.hid h4
      have OK := Lib.hid ok
      clear h4 n4 ok
      go_wp2
      refine bodyPost_ret (v := .tuple #[.agg #[.int .u8 nc, .string nt, .slice np1 nl1 nq1, .slice np2 nl2 nq2], .bool false]) (by simp [results, Tryd.results40, go_sem, *]) rfl ?_
      refine ⟨nc, nt, np1, nl1, nq1, np2, nl2, nq2, .inr ⟨by rw [HV4.out]; exact Classical.byContradiction OK.out, rfl, k4, f4, by omega, hk4, ne4, ?_⟩, ?_⟩
      · exact (((H4.out.far _ (by show ¬ w.heap.size = R; omega) _).far _ (by show ¬ w.heap.size = R; omega) _).far _ (by show ¬ w.heap.size = R; omega) _).far _ (by show ¬ w.heap.size = R; omega) _
      · exact grown_setFar (grown_setFar (grown_setFar (grown_setFar GG.out _ (Nat.le_refl _) _) _ (Nat.le_refl _) _) _ (Nat.le_refl _) _) _ (Nat.le_refl _) _
  · have b123 : (c == 123) = false := by simpa using q123
    by_cases q91 : c = 91
    · subst q91
      have hlt1 := hlt (by decide)
      have hv : v = openN s.data.toList 93 (pA s.data.toList) (k1 + 1) := by rw [HV.out, if_neg (by decide), if_pos rfl]
      have c1 := H3.out.c1
      have f1 := H3.out.fz 1
      obtain ⟨m, rfl⟩ : ∃ m, n = m + 1 := ⟨n - 1, by omega⟩
      have HM := Lib.hid (HIH.out m (Nat.lt_succ_self m))
      have G3' := Lib.hid (grown_set G3.out 1 (.int .i64 ((k1 : Int) + 1)))
      have HC3' := Lib.hid (HC3.out.kept (Below.heap_setCell (w2.alloc (Obj.cells #[.int .u8 91, .string ⟨#[]⟩, .slice none 0 0, .slice none 0 0] 48)) ⟨R, 1, none⟩ (.int .i64 ((k1 : Int) + 1)) w.heap.size (by show w.heap.size ≠ R; omega)) (by simp [World.setCell]))
      have HOB := Lib.hid (arrayS m R w2.heap.size (w2.heap.size + 1) s (k1 + 1) f op _ H3.out.inc ((HN3.out.reader hRN hNR 1 (.int .i64 ((k1 : Int) + 1))).mono (Nat.zero_le _)) hRN hNR hs hlt1 (by omega) HM)
      clear HN3 H3 G3 HC3 HM
      have G3 := G3'
      have HC3 := HC3'
      clear G3' HC3'
      go_wp2_with fail
      refine HOB.out.mono ?_
      have HV4 := Lib.hid hv
      rintro e w4 ⟨hcase, g4⟩
      have GG := Lib.hid (val_grown G3.out g4 (by omega) (Nat.lt_succ_self _))
      have HC4 := HC3.out.kept (g4.block w.heap.size (by omega) (by omega) (by omega)) g4.size
      obtain ⟨⟨cc, ct, cp1, cl1, cq1, cp2, cl2, cq2, z0, z1, z2, z3⟩, zf, zl⟩ := HC4
      have zf0 := zf 0
      have zf1 := zf 1
      have zf2 := zf 2
      have zf3 := zf 3
      clear g4 zf hv HV G3 HC3 HIH HSEE hlt
      rcases hcase with ⟨ok, rfl, h4, n4⟩ | ⟨ok, rfl, k4, f4, le4, hk4, ne4, h4, n4⟩
      · obtain ⟨nc, nt, np1, nl1, nq1, np2, nl2, nq2, n0, n1, n2, n3⟩ := n4.val
        have H4 := Lib.hid h4
        have OK := Lib.hid ok
        clear h4 n4 ok
        go_wp2
        refine bodyPost_ret (v := .tuple #[.agg #[.int .u8 nc, .string nt, .slice np1 nl1 nq1, .slice np2 nl2 nq2], .bool true]) (by simp [results, Tryd.results40, go_sem, *]) rfl ?_
        refine ⟨nc, nt, np1, nl1, nq1, np2, nl2, nq2, .inl ⟨by rw [HV4.out]; exact OK.out, rfl, ?_⟩, ?_⟩
        · rw [HV4.out]
          exact (((H4.out.far _ (by show ¬ w.heap.size = R; omega) _).far _ (by show ¬ w.heap.size = R; omega) _).far _ (by show ¬ w.heap.size = R; omega) _).far _ (by show ¬ w.heap.size = R; omega) _
        · exact grown_setFar (grown_setFar (grown_setFar (grown_setFar GG.out _ (Nat.le_refl _) _) _ (Nat.le_refl _) _) _ (Nat.le_refl _) _) _ (Nat.le_refl _) _
      · obtain ⟨nc, nt, np1, nl1, nq1, np2, nl2, nq2, n0, n1, n2, n3⟩ := n4.val
        have H4 := Lib.hid h4
        have OK := Lib.hid ok
        clear h4 n4 ok
        go_wp2
        refine bodyPost_ret (v := .tuple #[.agg #[.int .u8 nc, .string nt, .slice np1 nl1 nq1, .slice np2 nl2 nq2], .bool false]) (by simp [results, Tryd.results40, go_sem, *]) rfl ?_
        refine ⟨nc, nt, np1, nl1, nq1, np2, nl2, nq2, .inr ⟨by rw [HV4.out]; exact Classical.byContradiction OK.out, rfl, k4, f4, by omega, hk4, ne4, ?_⟩, ?_⟩
        · exact (((H4.out.far _ (by show ¬ w.heap.size = R; omega) _).far _ (by show ¬ w.heap.size = R; omega) _).far _ (by show ¬ w.heap.size = R; omega) _).far _ (by show ¬ w.heap.size = R; omega) _
        · exact grown_setFar (grown_setFar (grown_setFar (grown_setFar GG.out _ (Nat.le_refl _) _) _ (Nat.le_refl _) _) _ (Nat.le_refl _) _) _ (Nat.le_refl _) _
    · have b91 : (c == 91) = false := by simpa using q91
      have hv : v = scaN s.data.toList k1 := by rw [HV.out, if_neg q123, if_neg q91]
      have HOB := Lib.hid (scalarS R w2.heap.size (w2.heap.size + 1) s k1 f op _ H3.out (HN3.out.mono (Nat.zero_le _)) hRN hNR hs hr.2)
      clear HN3 H3 q123 q91
      go_wp2_with fail
      refine HOB.out.mono ?_
      have HV4 := Lib.hid hv
      rintro e w4 ⟨hcase, g4⟩
      have GG := Lib.hid (val_grown G3.out g4 (by omega) (Nat.lt_succ_self _))
      have HC4 := HC3.out.kept (g4.block w.heap.size (by omega) (by omega) (by omega)) g4.size
      obtain ⟨⟨cc, ct, cp1, cl1, cq1, cp2, cl2, cq2, z0, z1, z2, z3⟩, zf, zl⟩ := HC4
      have zf0 := zf 0
      have zf1 := zf 1
      have zf2 := zf 2
      have zf3 := zf 3
      clear g4 zf hv HV G3 HC3 HIH HSEE hlt
      rcases hcase with ⟨ok, rfl, h4, n4⟩ | ⟨ok, rfl, k4, f4, le4, hk4, ne4, h4, n4⟩
      · obtain ⟨nc, nt, np1, nl1, nq1, np2, nl2, nq2, n0, n1, n2, n3⟩ := n4.val
        have H4 := Lib.hid h4
        have OK := Lib.hid ok
        clear h4 n4 ok
        go_wp2
        refine bodyPost_ret (v := .tuple #[.agg #[.int .u8 nc, .string nt, .slice np1 nl1 nq1, .slice np2 nl2 nq2], .bool true]) (by simp [results, Tryd.results40, go_sem, *]) rfl ?_
        refine ⟨nc, nt, np1, nl1, nq1, np2, nl2, nq2, .inl ⟨by rw [HV4.out]; exact OK.out, rfl, ?_⟩, ?_⟩
        · rw [HV4.out]
          exact (((H4.out.far _ (by show ¬ w.heap.size = R; omega) _).far _ (by show ¬ w.heap.size = R; omega) _).far _ (by show ¬ w.heap.size = R; omega) _).far _ (by show ¬ w.heap.size = R; omega) _
        · exact grown_setFar (grown_setFar (grown_setFar (grown_setFar GG.out _ (Nat.le_refl _) _) _ (Nat.le_refl _) _) _ (Nat.le_refl _) _) _ (Nat.le_refl _) _
      · obtain ⟨nc, nt, np1, nl1, nq1, np2, nl2, nq2, n0, n1, n2, n3⟩ := n4.val
        have H4 := Lib.hid h4
        have OK := Lib.hid ok
        clear h4 n4 ok
        go_wp2
        refine bodyPost_ret (v := .tuple #[.agg #[.int .u8 nc, .string nt, .slice np1 nl1 nq1, .slice np2 nl2 nq2], .bool false]) (by simp [results, Tryd.results40, go_sem, *]) rfl ?_
        refine ⟨nc, nt, np1, nl1, nq1, np2, nl2, nq2, .inr ⟨by rw [HV4.out]; exact Classical.byContradiction OK.out, rfl, k4, f4, by omega, hk4, ne4, ?_⟩, ?_⟩
        · exact (((H4.out.far _ (by show ¬ w.heap.size = R; omega) _).far _ (by show ¬ w.heap.size = R; omega) _).far _ (by show ¬ w.heap.size = R; omega) _).far _ (by show ¬ w.heap.size = R; omega) _
        · exact grown_setFar (grown_setFar (grown_setFar (grown_setFar GG.out _ (Nat.le_refl _) _) _ (Nat.le_refl _) _) _ (Nat.le_refl _) _) _ (Nat.le_refl _) _
end Go.Proofs.YtklncgmfbflooaaDoor
