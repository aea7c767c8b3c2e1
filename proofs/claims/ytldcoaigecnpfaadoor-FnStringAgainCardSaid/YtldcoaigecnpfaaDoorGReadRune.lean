/- The reference's reader: a character of more than one byte, walked. -/
import Derived.Test.YtldcoaigecnpfaaDoorGReader
namespace Go.Proofs.YtldcoaigecnpfaaDoor
open Go.RowKit
theorem rl_at (l : List UInt8) (k : Nat) (h : k ≤ l.length) : rlL (l.drop k) = rl ((l.length : Int) - k) (atL l k) (atL l (k + 1)) (atL l (k + 1 + 1)) (atL l (k + 1 + 1 + 1)) := by
  have e : ∀ j, atL (l.drop k) j = atL l (k + j) := fun j => by
    unfold atL; rw [List.getD_eq_getElem?_getD, List.getD_eq_getElem?_getD, List.getElem?_drop]
  unfold rlL
  rw [e, e, e, e, List.length_drop, Nat.add_zero]
  congr 1
  omega
def RunePost (R : Nat) (s : ByteArray) (k : Nat) (tw lo : Bool) (f : Int) (op : Bool) (w : World) (e : Ending) (w' : World) : Prop :=
  (¬ rlL (s.data.toList.drop k) = 0 → ValPost (.bool true) R s (k + decW (s.data.toList.drop k)) tw lo f op w e w') ∧ (rlL (s.data.toList.drop k) = 0 → NoPost R s k tw lo op w e w')
theorem RunePost.no {R : Nat} {s : ByteArray} {k : Nat} {tw lo : Bool} {f : Int} {op : Bool} {w : World} {e : Ending} {w' : World} (h0 : rlL (s.data.toList.drop k) = 0) (h : NoPost R s k tw lo op w e w') : RunePost R s k tw lo f op w e w' := ⟨fun q => absurd h0 q, fun _ => h⟩
theorem RunePost.yes {R : Nat} {s : ByteArray} {k : Nat} {tw lo : Bool} {f : Int} {op : Bool} {w : World} {e : Ending} {w' : World} (n : Nat) (h0 : rlL (s.data.toList.drop k) = n) (hn : 0 < n) (h : ValPost (.bool true) R s (k + n) tw lo f op w e w') : RunePost R s k tw lo f op w e w' := by
  have e1 : ¬ rlL (s.data.toList.drop k) = 0 := by omega
  have e2 : decW (s.data.toList.drop k) = n := by unfold decW; rw [if_neg e1]; omega
  exact ⟨fun _ => by rw [e2]; exact h, fun q => absurd q e1⟩
theorem NoPost.trans {R : Nat} {s : ByteArray} {k k1 : Nat} {tw lo : Bool} {op : Bool} {w w1 : World} {e : Ending} {w' : World} (hg : w.grownBy w1 (some R)) (hk : k ≤ k1) (h : NoPost R s k1 tw lo op w1 e w') : NoPost R s k tw lo op w e w' := by
  obtain ⟨he, ⟨k', f', h1, h2, h3, h4⟩, h5⟩ := h
  exact ⟨he, ⟨k', f', Nat.le_trans hk h1, h2, h3, h4⟩, grown_trans hg h5⟩
set_option maxRecDepth 100000 in
set_option maxHeartbeats 2000000 in
theorem rune_2 (R : Nat) (s : ByteArray) (k : Nat) (tw lo : Bool) (f : Int) (op : Bool) (w : World) (h : RdAt w R s k tw lo f op) (hs : s.size ≤ 140737488355328) (hk : k < s.size) (h1 : 194 ≤ atL s.data.toList k) (h2 : atL s.data.toList k ≤ 223) :
    Calls Tryd.prog 44 #[.pointer (some ⟨R, 0, none⟩)] w (RunePost R s k tw lo f op w) := by
  have hse : seeP s.data.toList k = atL s.data.toList k := by unfold seeP; rw [if_pos (by rw [size_list]; exact hk)]
  have hsee := see R s k tw lo f op w h hs (Nat.le_of_lt hk)
  rw [hse] at hsee
  have hrl := rl_at s.data.toList k (by rw [size_list]; omega)
  rw [size_list] at hrl
  obtain ⟨c, hc⟩ : ∃ c, c = atL s.data.toList k := ⟨_, rfl⟩
  rw [← hc] at hsee hrl h1 h2
  have HC := Lib.hid hc
  have HRL := Lib.hid hrl
  have HSEE := Lib.hid hsee
  clear hc hrl hsee hse h

  have qa := atL_range s.data.toList (k + 1)
  have qb := atL_range s.data.toList (k + 1 + 1)
  have qc := atL_range s.data.toList (k + 1 + 1 + 1)
  by_cases n1 : (k + 1) < s.size ∧ 128 ≤ atL s.data.toList (k + 1) ∧ atL s.data.toList (k + 1) ≤ 191
  · go_enter Tryd.func44, Tryd.ntmps44
    go_wp2_with fail
    refine HSEE.out.mono ?_
    rintro e w1 ⟨rfl, h1, g1⟩
    have c1 := h1.c1
    have f1 := h1.fz 1
    have H1 := Lib.hid h1.inc
    have G1 := Lib.hid (grown_set g1 1 (.int .i64 ((k : Int) + 1)))
    clear h1 g1
    go_wp2_with fail
    refine (need_ok R s (k + 1) tw lo f op 128 191 _ H1.out hs (by omega) n1.2.1 n1.2.2).mono ?_
    rintro e w2 ⟨rfl, h2, g2⟩
    have H2 := Lib.hid h2
    have G2 := Lib.hid (grown_trans G1.out g2)
    clear h2 g2
    go_wp2
    go_ret
    exact RunePost.yes 2 (by rw [HRL.out]; unfold rl; ((repeat' split) <;> omega)) (by omega) ⟨rfl, H2.out, G2.out⟩
  · go_enter Tryd.func44, Tryd.ntmps44
    go_wp2_with fail
    refine HSEE.out.mono ?_
    rintro e w1 ⟨rfl, h1, g1⟩
    have c1 := h1.c1
    have f1 := h1.fz 1
    have H1 := Lib.hid h1.inc
    have G1 := Lib.hid (grown_set g1 1 (.int .i64 ((k : Int) + 1)))
    clear h1 g1
    go_wp2_with fail
    refine (need_no R s (k + 1) tw lo f op 128 191 _ H1.out hs (by omega) (fun q1 q2 => n1 ⟨q1, q2⟩)).mono ?_
    rintro e w2 ⟨rfl, h2, g2⟩
    have H2 := Lib.hid h2
    have G2 := Lib.hid g2
    clear h2 g2
    go_wp2
    go_ret
    exact RunePost.no (by rw [HRL.out]; unfold rl; ((repeat' split) <;> omega)) (NoPost.trans G1.out (by omega) ⟨rfl, H2.out, G2.out⟩)
set_option maxRecDepth 100000 in
set_option maxHeartbeats 2000000 in
theorem rune_3a (R : Nat) (s : ByteArray) (k : Nat) (tw lo : Bool) (f : Int) (op : Bool) (w : World) (h : RdAt w R s k tw lo f op) (hs : s.size ≤ 140737488355328) (hk : k < s.size) (h1 : atL s.data.toList k = 224) :
    Calls Tryd.prog 44 #[.pointer (some ⟨R, 0, none⟩)] w (RunePost R s k tw lo f op w) := by
  have hse : seeP s.data.toList k = atL s.data.toList k := by unfold seeP; rw [if_pos (by rw [size_list]; exact hk)]
  have hsee := see R s k tw lo f op w h hs (Nat.le_of_lt hk)
  rw [hse] at hsee
  have hrl := rl_at s.data.toList k (by rw [size_list]; omega)
  rw [size_list] at hrl
  obtain ⟨c, hc⟩ : ∃ c, c = atL s.data.toList k := ⟨_, rfl⟩
  rw [← hc] at hsee hrl h1
  have HC := Lib.hid hc
  have HRL := Lib.hid hrl
  have HSEE := Lib.hid hsee
  clear hc hrl hsee hse h
  have e1 : (c == 224) = true := by simp; omega
  have e2 : (c == 237) = false := by simp; omega
  have x1 : ¬ c ≤ 223 := by omega
  have x2 : (224 : Int) ≤ c := by omega
  have x3 : c ≤ 239 := by omega
  have x0 : (194 : Int) ≤ c := by omega
  have h1' := Lib.hid h1
  clear h1
  have h1 := h1'.out
  clear h1'
  have h1a : 224 ≤ c := by omega
  have h1b : c ≤ 224 := by omega
  clear h1
  have qa := atL_range s.data.toList (k + 1)
  have qb := atL_range s.data.toList (k + 1 + 1)
  have qc := atL_range s.data.toList (k + 1 + 1 + 1)
  by_cases n1 : (k + 1) < s.size ∧ 160 ≤ atL s.data.toList (k + 1) ∧ atL s.data.toList (k + 1) ≤ 191
  · by_cases n2 : (k + 1 + 1) < s.size ∧ 128 ≤ atL s.data.toList (k + 1 + 1) ∧ atL s.data.toList (k + 1 + 1) ≤ 191
    · go_enter Tryd.func44, Tryd.ntmps44
      go_wp2_with fail
      refine HSEE.out.mono ?_
      rintro e w1 ⟨rfl, h1, g1⟩
      have c1 := h1.c1
      have f1 := h1.fz 1
      have H1 := Lib.hid h1.inc
      have G1 := Lib.hid (grown_set g1 1 (.int .i64 ((k : Int) + 1)))
      clear h1 g1
      go_wp2_with fail
      refine (need_ok R s (k + 1) tw lo f op 160 191 _ H1.out hs (by omega) n1.2.1 n1.2.2).mono ?_
      rintro e w2 ⟨rfl, h2, g2⟩
      have H2 := Lib.hid h2
      have G2 := Lib.hid (grown_trans G1.out g2)
      clear h2 g2
      go_wp2_with fail
      refine (need_ok R s (k + 1 + 1) tw lo f op 128 191 _ H2.out hs (by omega) n2.2.1 n2.2.2).mono ?_
      rintro e w3 ⟨rfl, h3, g3⟩
      have H3 := Lib.hid h3
      have G3 := Lib.hid (grown_trans G2.out g3)
      clear h3 g3
      go_wp2
      go_ret
      exact RunePost.yes 3 (by rw [HRL.out]; unfold rl; ((repeat' split) <;> omega)) (by omega) ⟨rfl, H3.out, G3.out⟩
    · go_enter Tryd.func44, Tryd.ntmps44
      go_wp2_with fail
      refine HSEE.out.mono ?_
      rintro e w1 ⟨rfl, h1, g1⟩
      have c1 := h1.c1
      have f1 := h1.fz 1
      have H1 := Lib.hid h1.inc
      have G1 := Lib.hid (grown_set g1 1 (.int .i64 ((k : Int) + 1)))
      clear h1 g1
      go_wp2_with fail
      refine (need_ok R s (k + 1) tw lo f op 160 191 _ H1.out hs (by omega) n1.2.1 n1.2.2).mono ?_
      rintro e w2 ⟨rfl, h2, g2⟩
      have H2 := Lib.hid h2
      have G2 := Lib.hid (grown_trans G1.out g2)
      clear h2 g2
      go_wp2_with fail
      refine (need_no R s (k + 1 + 1) tw lo f op 128 191 _ H2.out hs (by omega) (fun q1 q2 => n2 ⟨q1, q2⟩)).mono ?_
      rintro e w3 ⟨rfl, h3, g3⟩
      have H3 := Lib.hid h3
      have G3 := Lib.hid g3
      clear h3 g3
      go_wp2
      go_ret
      exact RunePost.no (by rw [HRL.out]; unfold rl; ((repeat' split) <;> omega)) (NoPost.trans G2.out (by omega) ⟨rfl, H3.out, G3.out⟩)
  · go_enter Tryd.func44, Tryd.ntmps44
    go_wp2_with fail
    refine HSEE.out.mono ?_
    rintro e w1 ⟨rfl, h1, g1⟩
    have c1 := h1.c1
    have f1 := h1.fz 1
    have H1 := Lib.hid h1.inc
    have G1 := Lib.hid (grown_set g1 1 (.int .i64 ((k : Int) + 1)))
    clear h1 g1
    go_wp2_with fail
    refine (need_no R s (k + 1) tw lo f op 160 191 _ H1.out hs (by omega) (fun q1 q2 => n1 ⟨q1, q2⟩)).mono ?_
    rintro e w2 ⟨rfl, h2, g2⟩
    have H2 := Lib.hid h2
    have G2 := Lib.hid g2
    clear h2 g2
    go_wp2
    go_ret
    exact RunePost.no (by rw [HRL.out]; unfold rl; ((repeat' split) <;> omega)) (NoPost.trans G1.out (by omega) ⟨rfl, H2.out, G2.out⟩)
set_option maxRecDepth 100000 in
set_option maxHeartbeats 2000000 in
theorem rune_3b (R : Nat) (s : ByteArray) (k : Nat) (tw lo : Bool) (f : Int) (op : Bool) (w : World) (h : RdAt w R s k tw lo f op) (hs : s.size ≤ 140737488355328) (hk : k < s.size) (h1 : 225 ≤ atL s.data.toList k) (h2 : atL s.data.toList k ≤ 239) (h3 : ¬ atL s.data.toList k = 237) :
    Calls Tryd.prog 44 #[.pointer (some ⟨R, 0, none⟩)] w (RunePost R s k tw lo f op w) := by
  have hse : seeP s.data.toList k = atL s.data.toList k := by unfold seeP; rw [if_pos (by rw [size_list]; exact hk)]
  have hsee := see R s k tw lo f op w h hs (Nat.le_of_lt hk)
  rw [hse] at hsee
  have hrl := rl_at s.data.toList k (by rw [size_list]; omega)
  rw [size_list] at hrl
  obtain ⟨c, hc⟩ : ∃ c, c = atL s.data.toList k := ⟨_, rfl⟩
  rw [← hc] at hsee hrl h1 h2 h3
  have HC := Lib.hid hc
  have HRL := Lib.hid hrl
  have HSEE := Lib.hid hsee
  clear hc hrl hsee hse h
  have e1 : (c == 224) = false := by simp; omega
  have e2 : (c == 237) = false := by simpa using h3
  have x1 : ¬ c ≤ 223 := by omega
  have x2 : (224 : Int) ≤ c := by omega
  have x3 : c ≤ 239 := by omega
  have x0 : (194 : Int) ≤ c := by omega
  have qa := atL_range s.data.toList (k + 1)
  have qb := atL_range s.data.toList (k + 1 + 1)
  have qc := atL_range s.data.toList (k + 1 + 1 + 1)
  by_cases n1 : (k + 1) < s.size ∧ 128 ≤ atL s.data.toList (k + 1) ∧ atL s.data.toList (k + 1) ≤ 191
  · by_cases n2 : (k + 1 + 1) < s.size ∧ 128 ≤ atL s.data.toList (k + 1 + 1) ∧ atL s.data.toList (k + 1 + 1) ≤ 191
    · go_enter Tryd.func44, Tryd.ntmps44
      go_wp2_with fail
      refine HSEE.out.mono ?_
      rintro e w1 ⟨rfl, h1, g1⟩
      have c1 := h1.c1
      have f1 := h1.fz 1
      have H1 := Lib.hid h1.inc
      have G1 := Lib.hid (grown_set g1 1 (.int .i64 ((k : Int) + 1)))
      clear h1 g1
      go_wp2_with fail
      refine (need_ok R s (k + 1) tw lo f op 128 191 _ H1.out hs (by omega) n1.2.1 n1.2.2).mono ?_
      rintro e w2 ⟨rfl, h2, g2⟩
      have H2 := Lib.hid h2
      have G2 := Lib.hid (grown_trans G1.out g2)
      clear h2 g2
      go_wp2_with fail
      refine (need_ok R s (k + 1 + 1) tw lo f op 128 191 _ H2.out hs (by omega) n2.2.1 n2.2.2).mono ?_
      rintro e w3 ⟨rfl, h3, g3⟩
      have H3 := Lib.hid h3
      have G3 := Lib.hid (grown_trans G2.out g3)
      clear h3 g3
      go_wp2
      go_ret
      exact RunePost.yes 3 (by rw [HRL.out]; unfold rl; ((repeat' split) <;> omega)) (by omega) ⟨rfl, H3.out, G3.out⟩
    · go_enter Tryd.func44, Tryd.ntmps44
      go_wp2_with fail
      refine HSEE.out.mono ?_
      rintro e w1 ⟨rfl, h1, g1⟩
      have c1 := h1.c1
      have f1 := h1.fz 1
      have H1 := Lib.hid h1.inc
      have G1 := Lib.hid (grown_set g1 1 (.int .i64 ((k : Int) + 1)))
      clear h1 g1
      go_wp2_with fail
      refine (need_ok R s (k + 1) tw lo f op 128 191 _ H1.out hs (by omega) n1.2.1 n1.2.2).mono ?_
      rintro e w2 ⟨rfl, h2, g2⟩
      have H2 := Lib.hid h2
      have G2 := Lib.hid (grown_trans G1.out g2)
      clear h2 g2
      go_wp2_with fail
      refine (need_no R s (k + 1 + 1) tw lo f op 128 191 _ H2.out hs (by omega) (fun q1 q2 => n2 ⟨q1, q2⟩)).mono ?_
      rintro e w3 ⟨rfl, h3, g3⟩
      have H3 := Lib.hid h3
      have G3 := Lib.hid g3
      clear h3 g3
      go_wp2
      go_ret
      exact RunePost.no (by rw [HRL.out]; unfold rl; ((repeat' split) <;> omega)) (NoPost.trans G2.out (by omega) ⟨rfl, H3.out, G3.out⟩)
  · go_enter Tryd.func44, Tryd.ntmps44
    go_wp2_with fail
    refine HSEE.out.mono ?_
    rintro e w1 ⟨rfl, h1, g1⟩
    have c1 := h1.c1
    have f1 := h1.fz 1
    have H1 := Lib.hid h1.inc
    have G1 := Lib.hid (grown_set g1 1 (.int .i64 ((k : Int) + 1)))
    clear h1 g1
    go_wp2_with fail
    refine (need_no R s (k + 1) tw lo f op 128 191 _ H1.out hs (by omega) (fun q1 q2 => n1 ⟨q1, q2⟩)).mono ?_
    rintro e w2 ⟨rfl, h2, g2⟩
    have H2 := Lib.hid h2
    have G2 := Lib.hid g2
    clear h2 g2
    go_wp2
    go_ret
    exact RunePost.no (by rw [HRL.out]; unfold rl; ((repeat' split) <;> omega)) (NoPost.trans G1.out (by omega) ⟨rfl, H2.out, G2.out⟩)
set_option maxRecDepth 100000 in
set_option maxHeartbeats 2000000 in
theorem rune_3c (R : Nat) (s : ByteArray) (k : Nat) (tw lo : Bool) (f : Int) (op : Bool) (w : World) (h : RdAt w R s k tw lo f op) (hs : s.size ≤ 140737488355328) (hk : k < s.size) (h1 : atL s.data.toList k = 237) :
    Calls Tryd.prog 44 #[.pointer (some ⟨R, 0, none⟩)] w (RunePost R s k tw lo f op w) := by
  have hse : seeP s.data.toList k = atL s.data.toList k := by unfold seeP; rw [if_pos (by rw [size_list]; exact hk)]
  have hsee := see R s k tw lo f op w h hs (Nat.le_of_lt hk)
  rw [hse] at hsee
  have hrl := rl_at s.data.toList k (by rw [size_list]; omega)
  rw [size_list] at hrl
  obtain ⟨c, hc⟩ : ∃ c, c = atL s.data.toList k := ⟨_, rfl⟩
  rw [← hc] at hsee hrl h1
  have HC := Lib.hid hc
  have HRL := Lib.hid hrl
  have HSEE := Lib.hid hsee
  clear hc hrl hsee hse h
  have e1 : (c == 224) = false := by simp; omega
  have e2 : (c == 237) = true := by simp; omega
  have x1 : ¬ c ≤ 223 := by omega
  have x2 : (224 : Int) ≤ c := by omega
  have x3 : c ≤ 239 := by omega
  have x0 : (194 : Int) ≤ c := by omega
  have h1a : 237 ≤ c := by omega
  have h1b : c ≤ 237 := by omega
  clear h1
  have qa := atL_range s.data.toList (k + 1)
  have qb := atL_range s.data.toList (k + 1 + 1)
  have qc := atL_range s.data.toList (k + 1 + 1 + 1)
  by_cases n1 : (k + 1) < s.size ∧ 128 ≤ atL s.data.toList (k + 1) ∧ atL s.data.toList (k + 1) ≤ 159
  · by_cases n2 : (k + 1 + 1) < s.size ∧ 128 ≤ atL s.data.toList (k + 1 + 1) ∧ atL s.data.toList (k + 1 + 1) ≤ 191
    · go_enter Tryd.func44, Tryd.ntmps44
      go_wp2_with fail
      refine HSEE.out.mono ?_
      rintro e w1 ⟨rfl, h1, g1⟩
      have c1 := h1.c1
      have f1 := h1.fz 1
      have H1 := Lib.hid h1.inc
      have G1 := Lib.hid (grown_set g1 1 (.int .i64 ((k : Int) + 1)))
      clear h1 g1
      go_wp2_with fail
      refine (need_ok R s (k + 1) tw lo f op 128 159 _ H1.out hs (by omega) n1.2.1 n1.2.2).mono ?_
      rintro e w2 ⟨rfl, h2, g2⟩
      have H2 := Lib.hid h2
      have G2 := Lib.hid (grown_trans G1.out g2)
      clear h2 g2
      go_wp2_with fail
      refine (need_ok R s (k + 1 + 1) tw lo f op 128 191 _ H2.out hs (by omega) n2.2.1 n2.2.2).mono ?_
      rintro e w3 ⟨rfl, h3, g3⟩
      have H3 := Lib.hid h3
      have G3 := Lib.hid (grown_trans G2.out g3)
      clear h3 g3
      go_wp2
      go_ret
      exact RunePost.yes 3 (by rw [HRL.out]; unfold rl; ((repeat' split) <;> omega)) (by omega) ⟨rfl, H3.out, G3.out⟩
    · go_enter Tryd.func44, Tryd.ntmps44
      go_wp2_with fail
      refine HSEE.out.mono ?_
      rintro e w1 ⟨rfl, h1, g1⟩
      have c1 := h1.c1
      have f1 := h1.fz 1
      have H1 := Lib.hid h1.inc
      have G1 := Lib.hid (grown_set g1 1 (.int .i64 ((k : Int) + 1)))
      clear h1 g1
      go_wp2_with fail
      refine (need_ok R s (k + 1) tw lo f op 128 159 _ H1.out hs (by omega) n1.2.1 n1.2.2).mono ?_
      rintro e w2 ⟨rfl, h2, g2⟩
      have H2 := Lib.hid h2
      have G2 := Lib.hid (grown_trans G1.out g2)
      clear h2 g2
      go_wp2_with fail
      refine (need_no R s (k + 1 + 1) tw lo f op 128 191 _ H2.out hs (by omega) (fun q1 q2 => n2 ⟨q1, q2⟩)).mono ?_
      rintro e w3 ⟨rfl, h3, g3⟩
      have H3 := Lib.hid h3
      have G3 := Lib.hid g3
      clear h3 g3
      go_wp2
      go_ret
      exact RunePost.no (by rw [HRL.out]; unfold rl; ((repeat' split) <;> omega)) (NoPost.trans G2.out (by omega) ⟨rfl, H3.out, G3.out⟩)
  · go_enter Tryd.func44, Tryd.ntmps44
    go_wp2_with fail
    refine HSEE.out.mono ?_
    rintro e w1 ⟨rfl, h1, g1⟩
    have c1 := h1.c1
    have f1 := h1.fz 1
    have H1 := Lib.hid h1.inc
    have G1 := Lib.hid (grown_set g1 1 (.int .i64 ((k : Int) + 1)))
    clear h1 g1
    go_wp2_with fail
    refine (need_no R s (k + 1) tw lo f op 128 159 _ H1.out hs (by omega) (fun q1 q2 => n1 ⟨q1, q2⟩)).mono ?_
    rintro e w2 ⟨rfl, h2, g2⟩
    have H2 := Lib.hid h2
    have G2 := Lib.hid g2
    clear h2 g2
    go_wp2
    go_ret
    exact RunePost.no (by rw [HRL.out]; unfold rl; ((repeat' split) <;> omega)) (NoPost.trans G1.out (by omega) ⟨rfl, H2.out, G2.out⟩)
set_option maxRecDepth 100000 in
set_option maxHeartbeats 2000000 in
theorem rune_4a (R : Nat) (s : ByteArray) (k : Nat) (tw lo : Bool) (f : Int) (op : Bool) (w : World) (h : RdAt w R s k tw lo f op) (hs : s.size ≤ 140737488355328) (hk : k < s.size) (h1 : atL s.data.toList k = 240) :
    Calls Tryd.prog 44 #[.pointer (some ⟨R, 0, none⟩)] w (RunePost R s k tw lo f op w) := by
  have hse : seeP s.data.toList k = atL s.data.toList k := by unfold seeP; rw [if_pos (by rw [size_list]; exact hk)]
  have hsee := see R s k tw lo f op w h hs (Nat.le_of_lt hk)
  rw [hse] at hsee
  have hrl := rl_at s.data.toList k (by rw [size_list]; omega)
  rw [size_list] at hrl
  obtain ⟨c, hc⟩ : ∃ c, c = atL s.data.toList k := ⟨_, rfl⟩
  rw [← hc] at hsee hrl h1
  have HC := Lib.hid hc
  have HRL := Lib.hid hrl
  have HSEE := Lib.hid hsee
  clear hc hrl hsee hse h
  have e1 : (c == 240) = true := by simp; omega
  have e2 : (c == 244) = false := by simp; omega
  have x0 : (194 : Int) ≤ c := by omega
  have x1 : ¬ c ≤ 223 := by omega
  have x2 : (224 : Int) ≤ c := by omega
  have x3 : ¬ c ≤ 239 := by omega
  have x4 : (240 : Int) ≤ c := by omega
  have x5 : c ≤ 244 := by omega
  have h1a : 240 ≤ c := by omega
  have h1b : c ≤ 240 := by omega
  clear h1
  have qa := atL_range s.data.toList (k + 1)
  have qb := atL_range s.data.toList (k + 1 + 1)
  have qc := atL_range s.data.toList (k + 1 + 1 + 1)
  by_cases n1 : (k + 1) < s.size ∧ 144 ≤ atL s.data.toList (k + 1) ∧ atL s.data.toList (k + 1) ≤ 191
  · by_cases n2 : (k + 1 + 1) < s.size ∧ 128 ≤ atL s.data.toList (k + 1 + 1) ∧ atL s.data.toList (k + 1 + 1) ≤ 191
    · by_cases n3 : (k + 1 + 1 + 1) < s.size ∧ 128 ≤ atL s.data.toList (k + 1 + 1 + 1) ∧ atL s.data.toList (k + 1 + 1 + 1) ≤ 191
      · go_enter Tryd.func44, Tryd.ntmps44
        go_wp2_with fail
        refine HSEE.out.mono ?_
        rintro e w1 ⟨rfl, h1, g1⟩
        have c1 := h1.c1
        have f1 := h1.fz 1
        have H1 := Lib.hid h1.inc
        have G1 := Lib.hid (grown_set g1 1 (.int .i64 ((k : Int) + 1)))
        clear h1 g1
        go_wp2_with fail
        refine (need_ok R s (k + 1) tw lo f op 144 191 _ H1.out hs (by omega) n1.2.1 n1.2.2).mono ?_
        rintro e w2 ⟨rfl, h2, g2⟩
        have H2 := Lib.hid h2
        have G2 := Lib.hid (grown_trans G1.out g2)
        clear h2 g2
        go_wp2_with fail
        refine (need_ok R s (k + 1 + 1) tw lo f op 128 191 _ H2.out hs (by omega) n2.2.1 n2.2.2).mono ?_
        rintro e w3 ⟨rfl, h3, g3⟩
        have H3 := Lib.hid h3
        have G3 := Lib.hid (grown_trans G2.out g3)
        clear h3 g3
        go_wp2_with fail
        refine (need_ok R s (k + 1 + 1 + 1) tw lo f op 128 191 _ H3.out hs (by omega) n3.2.1 n3.2.2).mono ?_
        rintro e w4 ⟨rfl, h4, g4⟩
        have H4 := Lib.hid h4
        have G4 := Lib.hid (grown_trans G3.out g4)
        clear h4 g4
        go_wp2
        go_ret
        exact RunePost.yes 4 (by rw [HRL.out]; unfold rl; ((repeat' split) <;> omega)) (by omega) ⟨rfl, H4.out, G4.out⟩
      · go_enter Tryd.func44, Tryd.ntmps44
        go_wp2_with fail
        refine HSEE.out.mono ?_
        rintro e w1 ⟨rfl, h1, g1⟩
        have c1 := h1.c1
        have f1 := h1.fz 1
        have H1 := Lib.hid h1.inc
        have G1 := Lib.hid (grown_set g1 1 (.int .i64 ((k : Int) + 1)))
        clear h1 g1
        go_wp2_with fail
        refine (need_ok R s (k + 1) tw lo f op 144 191 _ H1.out hs (by omega) n1.2.1 n1.2.2).mono ?_
        rintro e w2 ⟨rfl, h2, g2⟩
        have H2 := Lib.hid h2
        have G2 := Lib.hid (grown_trans G1.out g2)
        clear h2 g2
        go_wp2_with fail
        refine (need_ok R s (k + 1 + 1) tw lo f op 128 191 _ H2.out hs (by omega) n2.2.1 n2.2.2).mono ?_
        rintro e w3 ⟨rfl, h3, g3⟩
        have H3 := Lib.hid h3
        have G3 := Lib.hid (grown_trans G2.out g3)
        clear h3 g3
        go_wp2_with fail
        refine (need_no R s (k + 1 + 1 + 1) tw lo f op 128 191 _ H3.out hs (by omega) (fun q1 q2 => n3 ⟨q1, q2⟩)).mono ?_
        rintro e w4 ⟨rfl, h4, g4⟩
        have H4 := Lib.hid h4
        have G4 := Lib.hid g4
        clear h4 g4
        go_wp2
        go_ret
        exact RunePost.no (by rw [HRL.out]; unfold rl; ((repeat' split) <;> omega)) (NoPost.trans G3.out (by omega) ⟨rfl, H4.out, G4.out⟩)
    · go_enter Tryd.func44, Tryd.ntmps44
      go_wp2_with fail
      refine HSEE.out.mono ?_
      rintro e w1 ⟨rfl, h1, g1⟩
      have c1 := h1.c1
      have f1 := h1.fz 1
      have H1 := Lib.hid h1.inc
      have G1 := Lib.hid (grown_set g1 1 (.int .i64 ((k : Int) + 1)))
      clear h1 g1
      go_wp2_with fail
      refine (need_ok R s (k + 1) tw lo f op 144 191 _ H1.out hs (by omega) n1.2.1 n1.2.2).mono ?_
      rintro e w2 ⟨rfl, h2, g2⟩
      have H2 := Lib.hid h2
      have G2 := Lib.hid (grown_trans G1.out g2)
      clear h2 g2
      go_wp2_with fail
      refine (need_no R s (k + 1 + 1) tw lo f op 128 191 _ H2.out hs (by omega) (fun q1 q2 => n2 ⟨q1, q2⟩)).mono ?_
      rintro e w3 ⟨rfl, h3, g3⟩
      have H3 := Lib.hid h3
      have G3 := Lib.hid g3
      clear h3 g3
      go_wp2
      go_ret
      exact RunePost.no (by rw [HRL.out]; unfold rl; ((repeat' split) <;> omega)) (NoPost.trans G2.out (by omega) ⟨rfl, H3.out, G3.out⟩)
  · go_enter Tryd.func44, Tryd.ntmps44
    go_wp2_with fail
    refine HSEE.out.mono ?_
    rintro e w1 ⟨rfl, h1, g1⟩
    have c1 := h1.c1
    have f1 := h1.fz 1
    have H1 := Lib.hid h1.inc
    have G1 := Lib.hid (grown_set g1 1 (.int .i64 ((k : Int) + 1)))
    clear h1 g1
    go_wp2_with fail
    refine (need_no R s (k + 1) tw lo f op 144 191 _ H1.out hs (by omega) (fun q1 q2 => n1 ⟨q1, q2⟩)).mono ?_
    rintro e w2 ⟨rfl, h2, g2⟩
    have H2 := Lib.hid h2
    have G2 := Lib.hid g2
    clear h2 g2
    go_wp2
    go_ret
    exact RunePost.no (by rw [HRL.out]; unfold rl; ((repeat' split) <;> omega)) (NoPost.trans G1.out (by omega) ⟨rfl, H2.out, G2.out⟩)
set_option maxRecDepth 100000 in
set_option maxHeartbeats 2000000 in
theorem rune_4b (R : Nat) (s : ByteArray) (k : Nat) (tw lo : Bool) (f : Int) (op : Bool) (w : World) (h : RdAt w R s k tw lo f op) (hs : s.size ≤ 140737488355328) (hk : k < s.size) (h1 : 241 ≤ atL s.data.toList k) (h2 : atL s.data.toList k ≤ 243) :
    Calls Tryd.prog 44 #[.pointer (some ⟨R, 0, none⟩)] w (RunePost R s k tw lo f op w) := by
  have hse : seeP s.data.toList k = atL s.data.toList k := by unfold seeP; rw [if_pos (by rw [size_list]; exact hk)]
  have hsee := see R s k tw lo f op w h hs (Nat.le_of_lt hk)
  rw [hse] at hsee
  have hrl := rl_at s.data.toList k (by rw [size_list]; omega)
  rw [size_list] at hrl
  obtain ⟨c, hc⟩ : ∃ c, c = atL s.data.toList k := ⟨_, rfl⟩
  rw [← hc] at hsee hrl h1 h2
  have HC := Lib.hid hc
  have HRL := Lib.hid hrl
  have HSEE := Lib.hid hsee
  clear hc hrl hsee hse h
  have e1 : (c == 240) = false := by simp; omega
  have e2 : (c == 244) = false := by simp; omega
  have x0 : (194 : Int) ≤ c := by omega
  have x1 : ¬ c ≤ 223 := by omega
  have x2 : (224 : Int) ≤ c := by omega
  have x3 : ¬ c ≤ 239 := by omega
  have x4 : (240 : Int) ≤ c := by omega
  have x5 : c ≤ 244 := by omega
  have qa := atL_range s.data.toList (k + 1)
  have qb := atL_range s.data.toList (k + 1 + 1)
  have qc := atL_range s.data.toList (k + 1 + 1 + 1)
  by_cases n1 : (k + 1) < s.size ∧ 128 ≤ atL s.data.toList (k + 1) ∧ atL s.data.toList (k + 1) ≤ 191
  · by_cases n2 : (k + 1 + 1) < s.size ∧ 128 ≤ atL s.data.toList (k + 1 + 1) ∧ atL s.data.toList (k + 1 + 1) ≤ 191
    · by_cases n3 : (k + 1 + 1 + 1) < s.size ∧ 128 ≤ atL s.data.toList (k + 1 + 1 + 1) ∧ atL s.data.toList (k + 1 + 1 + 1) ≤ 191
      · go_enter Tryd.func44, Tryd.ntmps44
        go_wp2_with fail
        refine HSEE.out.mono ?_
        rintro e w1 ⟨rfl, h1, g1⟩
        have c1 := h1.c1
        have f1 := h1.fz 1
        have H1 := Lib.hid h1.inc
        have G1 := Lib.hid (grown_set g1 1 (.int .i64 ((k : Int) + 1)))
        clear h1 g1
        go_wp2_with fail
        refine (need_ok R s (k + 1) tw lo f op 128 191 _ H1.out hs (by omega) n1.2.1 n1.2.2).mono ?_
        rintro e w2 ⟨rfl, h2, g2⟩
        have H2 := Lib.hid h2
        have G2 := Lib.hid (grown_trans G1.out g2)
        clear h2 g2
        go_wp2_with fail
        refine (need_ok R s (k + 1 + 1) tw lo f op 128 191 _ H2.out hs (by omega) n2.2.1 n2.2.2).mono ?_
        rintro e w3 ⟨rfl, h3, g3⟩
        have H3 := Lib.hid h3
        have G3 := Lib.hid (grown_trans G2.out g3)
        clear h3 g3
        go_wp2_with fail
        refine (need_ok R s (k + 1 + 1 + 1) tw lo f op 128 191 _ H3.out hs (by omega) n3.2.1 n3.2.2).mono ?_
        rintro e w4 ⟨rfl, h4, g4⟩
        have H4 := Lib.hid h4
        have G4 := Lib.hid (grown_trans G3.out g4)
        clear h4 g4
        go_wp2
        go_ret
        exact RunePost.yes 4 (by rw [HRL.out]; unfold rl; ((repeat' split) <;> omega)) (by omega) ⟨rfl, H4.out, G4.out⟩
      · go_enter Tryd.func44, Tryd.ntmps44
        go_wp2_with fail
        refine HSEE.out.mono ?_
        rintro e w1 ⟨rfl, h1, g1⟩
        have c1 := h1.c1
        have f1 := h1.fz 1
        have H1 := Lib.hid h1.inc
        have G1 := Lib.hid (grown_set g1 1 (.int .i64 ((k : Int) + 1)))
        clear h1 g1
        go_wp2_with fail
        refine (need_ok R s (k + 1) tw lo f op 128 191 _ H1.out hs (by omega) n1.2.1 n1.2.2).mono ?_
        rintro e w2 ⟨rfl, h2, g2⟩
        have H2 := Lib.hid h2
        have G2 := Lib.hid (grown_trans G1.out g2)
        clear h2 g2
        go_wp2_with fail
        refine (need_ok R s (k + 1 + 1) tw lo f op 128 191 _ H2.out hs (by omega) n2.2.1 n2.2.2).mono ?_
        rintro e w3 ⟨rfl, h3, g3⟩
        have H3 := Lib.hid h3
        have G3 := Lib.hid (grown_trans G2.out g3)
        clear h3 g3
        go_wp2_with fail
        refine (need_no R s (k + 1 + 1 + 1) tw lo f op 128 191 _ H3.out hs (by omega) (fun q1 q2 => n3 ⟨q1, q2⟩)).mono ?_
        rintro e w4 ⟨rfl, h4, g4⟩
        have H4 := Lib.hid h4
        have G4 := Lib.hid g4
        clear h4 g4
        go_wp2
        go_ret
        exact RunePost.no (by rw [HRL.out]; unfold rl; ((repeat' split) <;> omega)) (NoPost.trans G3.out (by omega) ⟨rfl, H4.out, G4.out⟩)
    · go_enter Tryd.func44, Tryd.ntmps44
      go_wp2_with fail
      refine HSEE.out.mono ?_
      rintro e w1 ⟨rfl, h1, g1⟩
      have c1 := h1.c1
      have f1 := h1.fz 1
      have H1 := Lib.hid h1.inc
      have G1 := Lib.hid (grown_set g1 1 (.int .i64 ((k : Int) + 1)))
      clear h1 g1
      go_wp2_with fail
      refine (need_ok R s (k + 1) tw lo f op 128 191 _ H1.out hs (by omega) n1.2.1 n1.2.2).mono ?_
      rintro e w2 ⟨rfl, h2, g2⟩
      have H2 := Lib.hid h2
      have G2 := Lib.hid (grown_trans G1.out g2)
      clear h2 g2
      go_wp2_with fail
      refine (need_no R s (k + 1 + 1) tw lo f op 128 191 _ H2.out hs (by omega) (fun q1 q2 => n2 ⟨q1, q2⟩)).mono ?_
      rintro e w3 ⟨rfl, h3, g3⟩
      have H3 := Lib.hid h3
      have G3 := Lib.hid g3
      clear h3 g3
      go_wp2
      go_ret
      exact RunePost.no (by rw [HRL.out]; unfold rl; ((repeat' split) <;> omega)) (NoPost.trans G2.out (by omega) ⟨rfl, H3.out, G3.out⟩)
  · go_enter Tryd.func44, Tryd.ntmps44
    go_wp2_with fail
    refine HSEE.out.mono ?_
    rintro e w1 ⟨rfl, h1, g1⟩
    have c1 := h1.c1
    have f1 := h1.fz 1
    have H1 := Lib.hid h1.inc
    have G1 := Lib.hid (grown_set g1 1 (.int .i64 ((k : Int) + 1)))
    clear h1 g1
    go_wp2_with fail
    refine (need_no R s (k + 1) tw lo f op 128 191 _ H1.out hs (by omega) (fun q1 q2 => n1 ⟨q1, q2⟩)).mono ?_
    rintro e w2 ⟨rfl, h2, g2⟩
    have H2 := Lib.hid h2
    have G2 := Lib.hid g2
    clear h2 g2
    go_wp2
    go_ret
    exact RunePost.no (by rw [HRL.out]; unfold rl; ((repeat' split) <;> omega)) (NoPost.trans G1.out (by omega) ⟨rfl, H2.out, G2.out⟩)
set_option maxRecDepth 100000 in
set_option maxHeartbeats 2000000 in
theorem rune_4c (R : Nat) (s : ByteArray) (k : Nat) (tw lo : Bool) (f : Int) (op : Bool) (w : World) (h : RdAt w R s k tw lo f op) (hs : s.size ≤ 140737488355328) (hk : k < s.size) (h1 : atL s.data.toList k = 244) :
    Calls Tryd.prog 44 #[.pointer (some ⟨R, 0, none⟩)] w (RunePost R s k tw lo f op w) := by
  have hse : seeP s.data.toList k = atL s.data.toList k := by unfold seeP; rw [if_pos (by rw [size_list]; exact hk)]
  have hsee := see R s k tw lo f op w h hs (Nat.le_of_lt hk)
  rw [hse] at hsee
  have hrl := rl_at s.data.toList k (by rw [size_list]; omega)
  rw [size_list] at hrl
  obtain ⟨c, hc⟩ : ∃ c, c = atL s.data.toList k := ⟨_, rfl⟩
  rw [← hc] at hsee hrl h1
  have HC := Lib.hid hc
  have HRL := Lib.hid hrl
  have HSEE := Lib.hid hsee
  clear hc hrl hsee hse h
  have e1 : (c == 240) = false := by simp; omega
  have e2 : (c == 244) = true := by simp; omega
  have x0 : (194 : Int) ≤ c := by omega
  have x1 : ¬ c ≤ 223 := by omega
  have x2 : (224 : Int) ≤ c := by omega
  have x3 : ¬ c ≤ 239 := by omega
  have x4 : (240 : Int) ≤ c := by omega
  have x5 : c ≤ 244 := by omega
  have h1a : 244 ≤ c := by omega
  have h1b : c ≤ 244 := by omega
  clear h1
  have qa := atL_range s.data.toList (k + 1)
  have qb := atL_range s.data.toList (k + 1 + 1)
  have qc := atL_range s.data.toList (k + 1 + 1 + 1)
  by_cases n1 : (k + 1) < s.size ∧ 128 ≤ atL s.data.toList (k + 1) ∧ atL s.data.toList (k + 1) ≤ 143
  · by_cases n2 : (k + 1 + 1) < s.size ∧ 128 ≤ atL s.data.toList (k + 1 + 1) ∧ atL s.data.toList (k + 1 + 1) ≤ 191
    · by_cases n3 : (k + 1 + 1 + 1) < s.size ∧ 128 ≤ atL s.data.toList (k + 1 + 1 + 1) ∧ atL s.data.toList (k + 1 + 1 + 1) ≤ 191
      · go_enter Tryd.func44, Tryd.ntmps44
        go_wp2_with fail
        refine HSEE.out.mono ?_
        rintro e w1 ⟨rfl, h1, g1⟩
        have c1 := h1.c1
        have f1 := h1.fz 1
        have H1 := Lib.hid h1.inc
        have G1 := Lib.hid (grown_set g1 1 (.int .i64 ((k : Int) + 1)))
        clear h1 g1
        go_wp2_with fail
        refine (need_ok R s (k + 1) tw lo f op 128 143 _ H1.out hs (by omega) n1.2.1 n1.2.2).mono ?_
        rintro e w2 ⟨rfl, h2, g2⟩
        have H2 := Lib.hid h2
        have G2 := Lib.hid (grown_trans G1.out g2)
        clear h2 g2
        go_wp2_with fail
        refine (need_ok R s (k + 1 + 1) tw lo f op 128 191 _ H2.out hs (by omega) n2.2.1 n2.2.2).mono ?_
        rintro e w3 ⟨rfl, h3, g3⟩
        have H3 := Lib.hid h3
        have G3 := Lib.hid (grown_trans G2.out g3)
        clear h3 g3
        go_wp2_with fail
        refine (need_ok R s (k + 1 + 1 + 1) tw lo f op 128 191 _ H3.out hs (by omega) n3.2.1 n3.2.2).mono ?_
        rintro e w4 ⟨rfl, h4, g4⟩
        have H4 := Lib.hid h4
        have G4 := Lib.hid (grown_trans G3.out g4)
        clear h4 g4
        go_wp2
        go_ret
        exact RunePost.yes 4 (by rw [HRL.out]; unfold rl; ((repeat' split) <;> omega)) (by omega) ⟨rfl, H4.out, G4.out⟩
      · go_enter Tryd.func44, Tryd.ntmps44
        go_wp2_with fail
        refine HSEE.out.mono ?_
        rintro e w1 ⟨rfl, h1, g1⟩
        have c1 := h1.c1
        have f1 := h1.fz 1
        have H1 := Lib.hid h1.inc
        have G1 := Lib.hid (grown_set g1 1 (.int .i64 ((k : Int) + 1)))
        clear h1 g1
        go_wp2_with fail
        refine (need_ok R s (k + 1) tw lo f op 128 143 _ H1.out hs (by omega) n1.2.1 n1.2.2).mono ?_
        rintro e w2 ⟨rfl, h2, g2⟩
        have H2 := Lib.hid h2
        have G2 := Lib.hid (grown_trans G1.out g2)
        clear h2 g2
        go_wp2_with fail
        refine (need_ok R s (k + 1 + 1) tw lo f op 128 191 _ H2.out hs (by omega) n2.2.1 n2.2.2).mono ?_
        rintro e w3 ⟨rfl, h3, g3⟩
        have H3 := Lib.hid h3
        have G3 := Lib.hid (grown_trans G2.out g3)
        clear h3 g3
        go_wp2_with fail
        refine (need_no R s (k + 1 + 1 + 1) tw lo f op 128 191 _ H3.out hs (by omega) (fun q1 q2 => n3 ⟨q1, q2⟩)).mono ?_
        rintro e w4 ⟨rfl, h4, g4⟩
        have H4 := Lib.hid h4
        have G4 := Lib.hid g4
        clear h4 g4
        go_wp2
        go_ret
        exact RunePost.no (by rw [HRL.out]; unfold rl; ((repeat' split) <;> omega)) (NoPost.trans G3.out (by omega) ⟨rfl, H4.out, G4.out⟩)
    · go_enter Tryd.func44, Tryd.ntmps44
      go_wp2_with fail
      refine HSEE.out.mono ?_
      rintro e w1 ⟨rfl, h1, g1⟩
      have c1 := h1.c1
      have f1 := h1.fz 1
      have H1 := Lib.hid h1.inc
      have G1 := Lib.hid (grown_set g1 1 (.int .i64 ((k : Int) + 1)))
      clear h1 g1
      go_wp2_with fail
      refine (need_ok R s (k + 1) tw lo f op 128 143 _ H1.out hs (by omega) n1.2.1 n1.2.2).mono ?_
      rintro e w2 ⟨rfl, h2, g2⟩
      have H2 := Lib.hid h2
      have G2 := Lib.hid (grown_trans G1.out g2)
      clear h2 g2
      go_wp2_with fail
      refine (need_no R s (k + 1 + 1) tw lo f op 128 191 _ H2.out hs (by omega) (fun q1 q2 => n2 ⟨q1, q2⟩)).mono ?_
      rintro e w3 ⟨rfl, h3, g3⟩
      have H3 := Lib.hid h3
      have G3 := Lib.hid g3
      clear h3 g3
      go_wp2
      go_ret
      exact RunePost.no (by rw [HRL.out]; unfold rl; ((repeat' split) <;> omega)) (NoPost.trans G2.out (by omega) ⟨rfl, H3.out, G3.out⟩)
  · go_enter Tryd.func44, Tryd.ntmps44
    go_wp2_with fail
    refine HSEE.out.mono ?_
    rintro e w1 ⟨rfl, h1, g1⟩
    have c1 := h1.c1
    have f1 := h1.fz 1
    have H1 := Lib.hid h1.inc
    have G1 := Lib.hid (grown_set g1 1 (.int .i64 ((k : Int) + 1)))
    clear h1 g1
    go_wp2_with fail
    refine (need_no R s (k + 1) tw lo f op 128 143 _ H1.out hs (by omega) (fun q1 q2 => n1 ⟨q1, q2⟩)).mono ?_
    rintro e w2 ⟨rfl, h2, g2⟩
    have H2 := Lib.hid h2
    have G2 := Lib.hid g2
    clear h2 g2
    go_wp2
    go_ret
    exact RunePost.no (by rw [HRL.out]; unfold rl; ((repeat' split) <;> omega)) (NoPost.trans G1.out (by omega) ⟨rfl, H2.out, G2.out⟩)
set_option maxRecDepth 100000 in
set_option maxHeartbeats 2000000 in
theorem rune_x (R : Nat) (s : ByteArray) (k : Nat) (tw lo : Bool) (f : Int) (op : Bool) (w : World) (h : RdAt w R s k tw lo f op) (hs : s.size ≤ 140737488355328) (hk : k < s.size) (h1 : 128 ≤ atL s.data.toList k) (h2 : atL s.data.toList k ≤ 193) :
    Calls Tryd.prog 44 #[.pointer (some ⟨R, 0, none⟩)] w (RunePost R s k tw lo f op w) := by
  have hse : seeP s.data.toList k = atL s.data.toList k := by unfold seeP; rw [if_pos (by rw [size_list]; exact hk)]
  have hsee := see R s k tw lo f op w h hs (Nat.le_of_lt hk)
  rw [hse] at hsee
  have hrl := rl_at s.data.toList k (by rw [size_list]; omega)
  rw [size_list] at hrl
  obtain ⟨c, hc⟩ : ∃ c, c = atL s.data.toList k := ⟨_, rfl⟩
  rw [← hc] at hsee hrl h1 h2
  have HC := Lib.hid hc
  have HRL := Lib.hid hrl
  have HSEE := Lib.hid hsee
  clear hc hrl hsee hse h
  have x0 : ¬ (194 : Int) ≤ c := by omega
  have x1 : ¬ (224 : Int) ≤ c := by omega
  have x2 : ¬ (240 : Int) ≤ c := by omega
  go_enter Tryd.func44, Tryd.ntmps44
  go_wp2_with fail
  refine HSEE.out.mono ?_
  rintro e w1 ⟨rfl, h1, g1⟩
  have H1 := Lib.hid h1
  have G1 := Lib.hid g1
  clear h1 g1
  go_wp2_with fail
  refine (failNo R s k tw lo f op 4 (by decide) _ H1.out (Nat.le_of_lt hk)).mono ?_
  rintro e w2 ⟨rfl, h2, g2⟩
  have H2 := Lib.hid h2
  have G2 := Lib.hid g2
  clear h2 g2
  go_wp2
  go_ret
  exact RunePost.no (by rw [HRL.out]; unfold rl; ((repeat' split) <;> omega)) (NoPost.trans G1.out (Nat.le_refl _) ⟨rfl, H2.out, G2.out⟩)
set_option maxRecDepth 100000 in
set_option maxHeartbeats 2000000 in
theorem rune_y (R : Nat) (s : ByteArray) (k : Nat) (tw lo : Bool) (f : Int) (op : Bool) (w : World) (h : RdAt w R s k tw lo f op) (hs : s.size ≤ 140737488355328) (hk : k < s.size) (h1 : 245 ≤ atL s.data.toList k) :
    Calls Tryd.prog 44 #[.pointer (some ⟨R, 0, none⟩)] w (RunePost R s k tw lo f op w) := by
  have hse : seeP s.data.toList k = atL s.data.toList k := by unfold seeP; rw [if_pos (by rw [size_list]; exact hk)]
  have hsee := see R s k tw lo f op w h hs (Nat.le_of_lt hk)
  rw [hse] at hsee
  have hrl := rl_at s.data.toList k (by rw [size_list]; omega)
  rw [size_list] at hrl
  obtain ⟨c, hc⟩ : ∃ c, c = atL s.data.toList k := ⟨_, rfl⟩
  rw [← hc] at hsee hrl h1
  have HC := Lib.hid hc
  have HRL := Lib.hid hrl
  have HSEE := Lib.hid hsee
  clear hc hrl hsee hse h
  have x0 : (194 : Int) ≤ c := by omega
  have x1 : ¬ c ≤ 223 := by omega
  have x2 : (224 : Int) ≤ c := by omega
  have x3 : ¬ c ≤ 239 := by omega
  have x4 : (240 : Int) ≤ c := by omega
  have x5 : ¬ c ≤ 244 := by omega
  go_enter Tryd.func44, Tryd.ntmps44
  go_wp2_with fail
  refine HSEE.out.mono ?_
  rintro e w1 ⟨rfl, h1, g1⟩
  have H1 := Lib.hid h1
  have G1 := Lib.hid g1
  clear h1 g1
  go_wp2_with fail
  refine (failNo R s k tw lo f op 4 (by decide) _ H1.out (Nat.le_of_lt hk)).mono ?_
  rintro e w2 ⟨rfl, h2, g2⟩
  have H2 := Lib.hid h2
  have G2 := Lib.hid g2
  clear h2 g2
  go_wp2
  go_ret
  exact RunePost.no (by rw [HRL.out]; unfold rl; ((repeat' split) <;> omega)) (NoPost.trans G1.out (Nat.le_refl _) ⟨rfl, H2.out, G2.out⟩)
theorem rune (R : Nat) (s : ByteArray) (k : Nat) (tw lo : Bool) (f : Int) (op : Bool) (w : World) (h : RdAt w R s k tw lo f op) (hs : s.size ≤ 140737488355328) (hk : k < s.size) (h0 : 128 ≤ atL s.data.toList k) :
    Calls Tryd.prog 44 #[.pointer (some ⟨R, 0, none⟩)] w (RunePost R s k tw lo f op w) := by
  by_cases q1 : atL s.data.toList k ≤ 193
  · exact rune_x R s k tw lo f op w h hs hk h0 q1
  by_cases q2 : atL s.data.toList k ≤ 223
  · exact rune_2 R s k tw lo f op w h hs hk (by omega) q2
  by_cases q3 : atL s.data.toList k = 224
  · exact rune_3a R s k tw lo f op w h hs hk q3
  by_cases q4 : atL s.data.toList k = 237
  · exact rune_3c R s k tw lo f op w h hs hk q4
  by_cases q5 : atL s.data.toList k ≤ 239
  · exact rune_3b R s k tw lo f op w h hs hk (by omega) q5 q4
  by_cases q6 : atL s.data.toList k = 240
  · exact rune_4a R s k tw lo f op w h hs hk q6
  by_cases q7 : atL s.data.toList k ≤ 243
  · exact rune_4b R s k tw lo f op w h hs hk (by omega) q7
  by_cases q8 : atL s.data.toList k = 244
  · exact rune_4c R s k tw lo f op w h hs hk q8
  · exact rune_y R s k tw lo f op w h hs hk (by omega)
end Go.Proofs.YtldcoaigecnpfaaDoor
