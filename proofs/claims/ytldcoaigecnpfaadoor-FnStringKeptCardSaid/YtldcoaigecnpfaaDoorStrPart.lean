/- spec.StringPart, walked: the string with which a text begins. -/
import Derived.Test.YtldcoaigecnpfaaDoorRdQuoted
import Derived.Test.YtldcoaigecnpfaaDoorPlain
import Derived.WalkSpells
namespace Go.Proofs.YtldcoaigecnpfaaDoor
open Go.RowKit
theorem grown_newP {w w' : World} {o : Obj} (h : (w.alloc o).grownBy w' (some w.heap.size)) : Below w.heap.size w w' :=
  ⟨h.os, h.tape, h.output, Nat.le_trans (by simp) h.size, fun k hk => (h.block k (by simp; omega) (fun e => by injection e with e; omega)).trans (by show (w.heap.push o)[k]? = _; rw [Array.getElem?_push, if_neg (by omega)])⟩
/-- Up to the mark at q, or some text and 'no'. -/
def PartPost (q : Nat) (s : ByteArray) (w : World) (e : Ending) (w' : World) : Prop :=
  (¬ q = 0 → e = .returned (.tuple #[.string (s.extract 0 (q + 1)), .bool true])) ∧ (q = 0 → ∃ s', e = .returned (.tuple #[.string s', .bool false])) ∧ Below w.heap.size w w'
set_option maxRecDepth 100000 in
theorem stringPart (s : ByteArray) (lo : Bool) (w : World) (hs : s.size ≤ 140737488355328) :
    Calls Tryd.prog 20 #[.string s, .bool lo] w (PartPost (strQ lo s.data.toList 0) s w) := by
  have hR : RdAt (w.alloc (Obj.cells #[.string s, .int .i64 0, .bool false, .bool lo, .int .i64 0, .bool false] 57)) w.heap.size s 0 false lo 0 false := by
    refine ⟨?_, ?_, ?_, ?_, ?_, ?_, ?_, ?_⟩
    all_goals simp
  have hq := quotedS w.heap.size s 0 false lo 0 false _ hR hs (Nat.zero_le _)
  have hr : ¬ strQ lo s.data.toList 0 = 0 → strQ lo s.data.toList 0 < s.size ∧ seeP s.data.toList (strQ lo s.data.toList 0) = 34 := fun q => by
    have h := (strQ_range q).2.2
    rw [size_list] at h
    exact ⟨h.1, by unfold seeP; rw [if_pos (by rw [size_list]; exact h.1)]; exact h.2⟩
  have HND : Hid (∀ q w1, ¬ q = 0 → q < s.size → seeP s.data.toList q = 34 → RdAt w1 w.heap.size s q false lo 0 false → Calls Tryd.prog 32 #[.pointer (some ⟨w.heap.size, 0, none⟩), .int .u8 34, .int .u8 34] w1 (fun e w' => e = .returned (.bool true) ∧ RdAt w' w.heap.size s (q + 1) false lo 0 false ∧ w1.grownBy w' (some w.heap.size))) := Lib.hid fun q w1 _ hlt h34 h1 => (need1 w.heap.size s q false lo 0 false 34 (by decide) w1 h1 hs (Nat.le_of_lt hlt)).mono fun e w' h => by
    rcases h with ⟨_, a, b, c⟩ | ⟨no, _⟩
    · exact ⟨a, b, c⟩
    · exact absurd h34 no
  generalize strQ lo s.data.toList 0 = q at hq hr
  have HQ := Lib.hid hq
  clear hq hR
  go_enter Tryd.func20, Tryd.ntmps20
  go_wp2_with fail
  refine HQ.out.mono ?_
  rintro e w1 (⟨ok, rfl, h1, g1⟩ | ⟨ok, rfl, ⟨k2, f2, le2, hk2, n2, h1⟩, g1⟩)
  · obtain ⟨hlt, h34⟩ := hr ok
    have HN := Lib.hid (HND.out q w1 ok hlt h34 h1)
    have HOK := Lib.hid ok
    have hq1 : (q : Int) + 1 ≤ (s.size : Int) := by omega
    have hq3 : ((q : Int) + 1).toNat = q + 1 := by omega
    have G1 := Lib.hid g1
    clear HND HQ h1 g1 h34 hr ok
    go_wp2_with fail
    refine HN.out.mono ?_
    rintro e w2 ⟨rfl, h2, g2⟩
    have c1 : w2.cell? ⟨w.heap.size, 1, none⟩ = some (.int .i64 ((q : Int) + 1)) := by have := h2.c1; rw [this]; congr 2
    have HB := Lib.hid (grown_newP (G1.out.trans g2))
    clear h2 g2 G1 HN
    go_wp2
    go_ret2
    exact ⟨fun _ => rfl, fun z => absurd z HOK.out, HB.out⟩
  · have c1 := h1.c1
    have hk3 : (k2 : Int) ≤ (s.size : Int) := by omega
    have HB := Lib.hid (grown_newP g1)
    have HOK := Lib.hid ok
    clear HND HQ h1 g1 hr ok
    go_wp2
    go_ret2
    exact ⟨fun z => absurd z HOK.out, fun _ => ⟨_, rfl⟩, HB.out⟩
end Go.Proofs.YtldcoaigecnpfaaDoor
