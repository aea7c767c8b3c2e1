/- The statement FnWireLiteral, walked: it returns true, and leaves all that lay below as it was. -/
import Derived.Test.YtegfdgmbhnfeeaaDoorLiteral
import Derived.Test.YtegfdgmbhnfeeaaDoorWordHead
import Derived.Test.YtegfdgmbhnfeeaaDoorErrIs
import Derived.Test.YtegfdgmbhnfeeaaDoorLaidEof
import Derived.Test.YtegfdgmbhnfeeaaDoorShort
import Derived.Test.YtegfdgmbhnfeeaaDoorLaidU8
namespace Go.Proofs.YtegfdgmbhnfeeaaDoor
open Go.RowKit
def SentAt (E : Addr) (w : World) : Prop := w.cell? ⟨0, 0, none⟩ = some (.iface 73 (.pointer (some E)))
theorem fault_nil (w : World) : Calls Tryd.prog 9 #[.nilIface] w fun e w' => e = .returned (.int .i64 0) ∧ w' = w := by
  go_enter Tryd.func9, Tryd.ntmps9
  go_wp2
  go_ret
  exact ⟨rfl, rfl⟩
theorem fault_eof (E : Addr) (w : World) (hE : SentAt E w) : Calls Tryd.prog 9 #[.iface 73 (.pointer (some E))] w fun e w' => e = .returned (.int .i64 1) ∧ w' = w := by
  have hE' : w.cell? ⟨0, 0, none⟩ = some (.iface 73 (.pointer (some E))) := hE
  clear hE
  go_enter Tryd.func9, Tryd.ntmps9
  go_wp2_with fail
  refine (is_same E _).mono ?_
  rintro e w' ⟨rfl, rfl⟩
  go_wp2
  go_ret
  exact ⟨rfl, rfl⟩
theorem fault_own (p E : Addr) (w : World) (hE : SentAt E w) : Calls Tryd.prog 9 #[.iface 48 (.pointer (some p))] w fun e w' => e = .returned (.int .i64 2) ∧ w' = w := by
  have hE' : w.cell? ⟨0, 0, none⟩ = some (.iface 73 (.pointer (some E))) := hE
  clear hE
  go_enter Tryd.func9, Tryd.ntmps9
  go_wp2_with fail
  refine (is_own p E _).mono ?_
  rintro e w' ⟨rfl, rfl⟩
  go_wp2
  go_ret
  exact ⟨rfl, rfl⟩
theorem cell_below {w w' : World} {a : Addr} {v : Value} (hb : Below w.heap.size w w') (h : w.cell? a = some v) : w'.cell? a = some v := by
  by_cases hg : a.block < w.heap.size
  · exact (World.cell?_of_block (hb.block a.block hg)).trans h
  · unfold World.cell? at h
    rw [Array.getElem?_eq_none (by omega)] at h
    cases h
theorem u8_below {w w' : World} (hb : Below w.heap.size w w') (h : Lib.Utf8Tabs 1 2 w) : Lib.Utf8Tabs 1 2 w' :=
  ⟨fun c hc => cell_below hb (h.1 c hc), fun i hi => ⟨cell_below hb (h.2 i hi).1, cell_below hb (h.2 i hi).2⟩⟩
def LitPost (n how : Int) (w : World) (e : Ending) (w' : World) : Prop := e = .returned (.tuple #[.int .i64 n, .int .i64 how]) ∧ Below w.heap.size w w'
set_option maxRecDepth 100000 in
theorem wl_fine (s m : ByteArray) (k : Nat) (E : Addr) (w : World) (hs : s.size ≤ 4000) (hm : m.size ≤ 4000) (hd : Hid (Parts s.data.toList m.data.toList k)) (hU : Lib.Utf8Tabs 1 2 w) (hF : SentAt E w) (hk : k = m.size) :
    Calls Tryd.prog 5 #[.string s, .string m] w (LitPost m.size 0 w) := by
  have hcv := run_conv s w
  have hbl := conv_below s w
  have hsz := conv_size s w
  have hpb := conv_bytes s w
  have hU' := u8_below hbl hU
  have hF' : SentAt E (convWorld w s) := cell_below hbl hF
  have hcc : s.size ≤ convCap w s := grownCap_ge _ _ _ _
  have hcm : convCap w s ≤ maxLen := grownCap_le_maxLen _ _ _ _ (by unfold maxLen; omega)
  have hb1 : w.heap.size < (convWorld w s).heap.size := by omega
  have hc := lit_fine s.data.toList m w.heap.size (convCap w s) (convWorld w s) hpb (by rw [size_list]; exact hcc) hcm (by rw [size_list]; exact hs) hm (by rw [← hk]; exact hd) (by have := hd.out.1; rw [hk] at this; exact this)
  rw [size_list] at hc
  generalize convCap w s = cap at hc hcv
  generalize convWorld w s = W at hc hcv hbl hU' hF' hb1 hsz
  have HC := Lib.hid hc
  have HF := Lib.hid hF'
  have HL := Lib.hid hbl
  clear hc hF' hbl hU' hsz hpb hcc hcm hb1 hU hF
  go_enter Tryd.func5, Tryd.ntmps5
  go_wp2_with fail
  refine HC.out.mono ?_
  rintro e w' ⟨rfl, hb⟩
  have HB := Lib.hid hb
  have HF2 : Hid (SentAt E w') := cell_below hb HF.out
  clear hb hcv
  go_wp2_with fail
  refine (fault_nil _).mono ?_
  rintro e w2 ⟨rfl, rfl⟩
  go_wp2
  go_ret2
  exact ⟨rfl, HL.out.trans (HB.out.mono HL.out.size)⟩
set_option maxRecDepth 100000 in
theorem wl_short (s m : ByteArray) (k : Nat) (E : Addr) (w : World) (hs : s.size ≤ 4000) (hm : m.size ≤ 4000) (hd : Hid (Parts s.data.toList m.data.toList k)) (hU : Lib.Utf8Tabs 1 2 w) (hF : SentAt E w) (hk : k = s.size) (hkm : k < m.size) :
    Calls Tryd.prog 5 #[.string s, .string m] w (LitPost s.size 1 w) := by
  have hcv := run_conv s w
  have hbl := conv_below s w
  have hsz := conv_size s w
  have hpb := conv_bytes s w
  have hU' := u8_below hbl hU
  have hF' : SentAt E (convWorld w s) := cell_below hbl hF
  have hcc : s.size ≤ convCap w s := grownCap_ge _ _ _ _
  have hcm : convCap w s ≤ maxLen := grownCap_le_maxLen _ _ _ _ (by unfold maxLen; omega)
  have hb1 : w.heap.size < (convWorld w s).heap.size := by omega
  have hc := lit_short s.data.toList m w.heap.size (convCap w s) (convWorld w s) hpb (by rw [size_list]; exact hcc) hcm (by rw [size_list]; exact hs) hm (by rw [size_list, ← hk]; exact hd) (by rw [size_list, ← hk]; exact hkm) E hF'
  rw [size_list] at hc
  generalize convCap w s = cap at hc hcv
  generalize convWorld w s = W at hc hcv hbl hU' hF' hb1 hsz
  have HC := Lib.hid hc
  have HF := Lib.hid hF'
  have HL := Lib.hid hbl
  clear hc hF' hbl hU' hsz hpb hcc hcm hb1 hU hF
  go_enter Tryd.func5, Tryd.ntmps5
  go_wp2_with fail
  refine HC.out.mono ?_
  rintro e w' ⟨rfl, hb⟩
  have HB := Lib.hid hb
  have HF2 : Hid (SentAt E w') := cell_below hb HF.out
  clear hb hcv
  go_wp2_with fail
  refine (fault_eof E _ HF2.out).mono ?_
  rintro e w2 ⟨rfl, rfl⟩
  go_wp2
  go_ret2
  exact ⟨rfl, HL.out.trans (HB.out.mono HL.out.size)⟩
set_option maxRecDepth 100000 in
theorem wl_bad (s m : ByteArray) (k : Nat) (E : Addr) (w : World) (hs : s.size ≤ 4000) (hm : m.size ≤ 4000) (hd : Hid (Parts s.data.toList m.data.toList k)) (hU : Lib.Utf8Tabs 1 2 w) (hF : SentAt E w) (hk : k < s.size) (hkm : k < m.size) :
    Calls Tryd.prog 5 #[.string s, .string m] w (LitPost k 2 w) := by
  have hcv := run_conv s w
  have hbl := conv_below s w
  have hsz := conv_size s w
  have hpb := conv_bytes s w
  have hU' := u8_below hbl hU
  have hF' : SentAt E (convWorld w s) := cell_below hbl hF
  have hcc : s.size ≤ convCap w s := grownCap_ge _ _ _ _
  have hcm : convCap w s ≤ maxLen := grownCap_le_maxLen _ _ _ _ (by unfold maxLen; omega)
  have hb1 : w.heap.size < (convWorld w s).heap.size := by omega
  have hc := lit_bad s.data.toList m w.heap.size (convCap w s) k (convWorld w s) hpb (by rw [size_list]; exact hcc) hcm (by rw [size_list]; exact hs) hm hd (by rw [size_list]; exact hk) hkm hU' hb1
  rw [size_list] at hc
  generalize convCap w s = cap at hc hcv
  generalize convWorld w s = W at hc hcv hbl hU' hF' hb1 hsz
  have HC := Lib.hid hc
  have HF := Lib.hid hF'
  have HL := Lib.hid hbl
  clear hc hF' hbl hU' hsz hpb hcc hcm hb1 hU hF
  go_enter Tryd.func5, Tryd.ntmps5
  go_wp2_with fail
  refine HC.out.mono ?_
  rintro e w' ⟨⟨p, rfl⟩, hb⟩
  have HB := Lib.hid hb
  have HF2 : Hid (SentAt E w') := cell_below hb HF.out
  clear hb hcv
  go_wp2_with fail
  refine (fault_own _ E _ HF2.out).mono ?_
  rintro e w2 ⟨rfl, rfl⟩
  go_wp2
  go_ret2
  exact ⟨rfl, HL.out.trans (HB.out.mono HL.out.size)⟩
theorem w10_fine (n : Int) (w : World) : Calls Tryd.prog 7 #[.int .i64 n, .int .i64 0, .int .i64 n, .int .i64 0] w fun e w' => e = .returned (.bool true) ∧ w' = w := by
  go_enter Tryd.func7, Tryd.ntmps7
  go_wp2
  go_ret
  exact ⟨rfl, rfl⟩
theorem w10_short (n : Int) (w : World) : Calls Tryd.prog 7 #[.int .i64 n, .int .i64 1, .int .i64 0, .int .i64 1] w fun e w' => e = .returned (.bool true) ∧ w' = w := by
  go_enter Tryd.func7, Tryd.ntmps7
  go_wp2
  go_ret
  exact ⟨rfl, rfl⟩
theorem w10_bad (n : Int) (w : World) : Calls Tryd.prog 7 #[.int .i64 n, .int .i64 2, .int .i64 0, .int .i64 2] w fun e w' => e = .returned (.bool true) ∧ w' = w := by
  go_enter Tryd.func7, Tryd.ntmps7
  go_wp2
  go_ret
  exact ⟨rfl, rfl⟩
theorem guard2 (p q : ByteArray) (w : World) (hp : p.size ≤ 2147483647) (hq : q.size ≤ 2147483647) :
    Calls Tryd.prog 4 #[.slice (some ⟨w.heap.size, 0, none⟩) 2 2] (w.alloc (Obj.cells #[.string p, .string q] 9)) fun e w' => e = .returned (.bool ([p, q].all okShort)) ∧ w.alloc (Obj.cells #[.string p, .string q] 9) = w' :=
  short10 w.heap.size [p, q] 2 _ (by simp) (fun s hs => by simp at hs; rcases hs with rfl | rfl <;> assumption) (fun j h => by
    match j, h with
    | 0, _ => simp
    | 1, _ => simp)
def AllPost (w : World) (e : Ending) (w' : World) : Prop := e = .returned (.bool true) ∧ Below w.heap.size w w'
set_option maxRecDepth 100000 in
/-- Behind the guard, the three parts by their contracts. -/
theorem law_on (s m : ByteArray) (n how due came : Int) (w : World) (h1 : s.size ≤ 2147483647) (h2 : m.size ≤ 2147483647) (hok : [s, m].all okShort = true)
    (hl : ∀ W, Below w.heap.size w W → Calls Tryd.prog 5 #[.string s, .string m] W (LitPost n how W))
    (hw : ∀ W, Calls Tryd.prog 6 #[.string s, .string m] W (CamePost due came W))
    (ht : ∀ W, Calls Tryd.prog 7 #[.int .i64 n, .int .i64 how, .int .i64 due, .int .i64 came] W fun e w' => e = .returned (.bool true) ∧ w' = W) :
    Calls Tryd.prog 3 #[.string s, .string m] w (AllPost w) := by
  have hg := guard2 s m w h1 h2
  rw [hok] at hg
  have hwb : Below w.heap.size w (w.alloc (Obj.cells #[.string s, .string m] 9)) := (Below.refl _ _).alloc (Nat.le_refl _) _
  have HL := Lib.hid hl
  have HW := Lib.hid hw
  have HT := Lib.hid ht
  have HB := Lib.hid hwb
  clear hl hw ht hwb hok
  go_enter Tryd.func3, Tryd.ntmps3
  go_wp2_with fail
  refine hg.mono ?_
  rintro e w' ⟨rfl, rfl⟩
  clear hg
  go_wp2_with fail
  refine (HL.out _ HB.out).mono ?_
  rintro e w1 ⟨rfl, hb1⟩
  have HB1 := Lib.hid (HB.out.trans (hb1.mono HB.out.size))
  clear hb1
  go_wp2_with fail
  refine (HW.out _).mono ?_
  rintro e w2 ⟨rfl, hb2⟩
  have HB2 := Lib.hid (HB1.out.trans (hb2.mono HB1.out.size))
  clear hb2
  go_wp2_with fail
  refine (HT.out _).mono ?_
  rintro e w3 ⟨rfl, rfl⟩
  go_wp2
  go_ret
  exact ⟨rfl, HB2.out⟩
set_option maxRecDepth 100000 in
theorem law_off (s m : ByteArray) (w : World) (h1 : s.size ≤ 2147483647) (h2 : m.size ≤ 2147483647) (hok : [s, m].all okShort = false) :
    Calls Tryd.prog 3 #[.string s, .string m] w (AllPost w) := by
  have hg := guard2 s m w h1 h2
  rw [hok] at hg
  clear hok
  go_enter Tryd.func3, Tryd.ntmps3
  go_wp2_with fail
  refine hg.mono ?_
  rintro e w' ⟨rfl, rfl⟩
  clear hg
  go_wp2
  go_ret
  exact ⟨rfl, (Below.refl _ _).alloc (Nat.le_refl _) _⟩
theorem law_walk (s m : ByteArray) (w : World) (h1 : s.size ≤ 2147483647) (h2 : m.size ≤ 2147483647) (hU : Lib.Utf8Tabs 1 2 w) {E : Addr} (hF : SentAt E w) :
    Calls Tryd.prog 3 #[.string s, .string m] w (AllPost w) := by
  cases hok : [s, m].all okShort
  · exact law_off s m w h1 h2 hok
  · have hs : s.size ≤ 4000 := by
      have := List.all_eq_true.1 hok s (by simp)
      unfold okShort at this; simpa using this
    have hm : m.size ≤ 4000 := by
      have := List.all_eq_true.1 hok m (by simp)
      unfold okShort at this; simpa using this
    obtain ⟨k, hd0⟩ := parts s.data.toList m.data.toList
    have hd := Lib.hid hd0
    have hk1 : k ≤ s.size := by have := hd0.1; rw [size_list] at this; exact this
    have hk2 : k ≤ m.size := by have := hd0.2.1; rw [size_list] at this; exact this
    have hwh := fun W => wordHead s m k W hs hm hd
    by_cases e : k = m.size
    · have e1 : decide (k = m.size) = true := by simpa using e
      rw [e1] at hwh
      refine law_on s m m.size 0 m.size 0 w h1 h2 hok (fun W hW => wl_fine s m k E W hs hm hd (u8_below hW hU) (cell_below hW hF) e) (fun W => ?_) (w10_fine _)
      have := hwh W
      unfold cameAt cameHow at this
      simp only [if_true] at this
      rw [e] at this
      exact this
    · have e1 : decide (k = m.size) = false := by simpa using e
      rw [e1] at hwh
      by_cases e2 : k = s.size
      · refine law_on s m s.size 1 0 1 w h1 h2 hok (fun W hW => wl_short s m k E W hs hm hd (u8_below hW hU) (cell_below hW hF) e2 (by omega)) (fun W => ?_) (w10_short _)
        have := hwh W
        unfold cameAt cameHow at this
        simp only [Bool.false_eq_true, if_false, if_pos e2] at this
        exact this
      · refine law_on s m k 2 0 2 w h1 h2 hok (fun W hW => wl_bad s m k E W hs hm hd (u8_below hW hU) (cell_below hW hF) (by omega) (by omega)) (fun W => ?_) (w10_bad _)
        have := hwh W
        unfold cameAt cameHow at this
        simp only [Bool.false_eq_true, if_false, if_neg e2] at this
        exact this
theorem fnWireLiteral_any {E : Addr} (a b : ByteArray) (w : World) (_ : a.size ≤ maxLen) (_ : b.size ≤ maxLen) (hU : Lib.Utf8Tabs 1 2 w) (hF : w.cell? ⟨0, 0, none⟩ = some (.iface 73 (.pointer (some E)))) :
    Calls Tryd.prog 3 #[.string a, .string b] w fun e w' => e = .returned (.bool true) ∧ Below w.heap.size w w' := by
  by_cases h : a.size ≤ 2147483647
  · by_cases h2 : b.size ≤ 2147483647
    · exact law_walk a b w h h2 hU hF
    · have h' : 2147483647 < b.size := by omega
      clear h2 hU hF
      go_enter Tryd.func3, Tryd.ntmps3
      go_wp2
      go_ret
      exact ⟨rfl, Below.refl _ _⟩
  · have h' : 2147483647 < a.size := by omega
    clear h hU hF
    go_enter Tryd.func3, Tryd.ntmps3
    go_wp2
    go_ret
    exact ⟨rfl, Below.refl _ _⟩
end Go.Proofs.YtegfdgmbhnfeeaaDoor
