/- What a failing read of a string calls: hasEscapedUTF16Prefix and FullRune over any bytes; walked. utf8.FullRune over any bytes whose first one is none of ASCII: some answer; walked. jsonwire.NewInvalidCharacterError, walked: it makes an error of the program's own type. -/
import Derived.Test.YtldcoaigecnpfaaDoorGUtf16
import Derived.Test.YtldcoaigecnpfaaDoorGBytes
import Derived.Test.YtldcoaigecnpfaaDoorGClose
import Derived.Deep.RegionWith
import Derived.Lib.Hide
namespace Go.Proofs.YtldcoaigecnpfaaDoor
open Go.RowKit
def SomeBool (w : World) (e : Ending) (w' : World) : Prop := ∃ r : Bool, e = .returned (.bool r) ∧ w' = w
set_option maxRecDepth 100000 in
set_option maxHeartbeats 8000000 in
/-- Some answer. -/
theorem anyPrefixfalse (l : List UInt8) (g o cap : Nat) (w : World) (hb : BytesAt w g o l) (hm : l.length ≤ 100) (hlc : l.length ≤ cap) :
    Calls Tryd.prog 70 #[.slice (some ⟨g, o, none⟩) l.length cap, .bool false] w (SomeBool w) := by
  have HB := Lib.hid hb
  have HN : Hid (∀ j, j < l.length → 0 ≤ atL l j ∧ atL l j < 256) := Lib.hid fun j _ => atL_range l j
  clear hb
  generalize hn : l.length = n at *
  have HNL := Lib.hid hn
  clear hn
  go_enter Tryd.func70, Tryd.ntmps70
  go_wp2
  go_loopg [9] n (fun q i wx => wx = w ∧ ∃ j : Nat, j ≤ n ∧ q = n - j ∧ i = .int .i64 j)
  case atStart => exact ⟨rfl, 0, by omega, rfl, rfl⟩
  case round =>
    obtain ⟨rfl, j, hj, rfl, rfl⟩ := hrel
    by_cases hjn : j < n
    · have ck := HB.out j (by rw [HNL.out]; exact hjn)
      have hr := HN.out j hjn
      generalize atL l j = c at ck hr
      rcases (show j = 0 ∨ j = 1 ∨ j = 2 ∨ j = 3 ∨ 4 ≤ j by omega) with rfl | rfl | rfl | rfl | hj4
      · rw [Nat.add_zero] at ck
        clear HB HN
        go_wp2
        all_goals first
          | (go_ret; exact ⟨_, rfl, rfl⟩)
          | (go_roundg (n - (0 + 1)); (case measure => omega); (case rel => exact ⟨rfl, 0 + 1, by omega, rfl, by go_num⟩))
      · clear HB HN
        go_wp2
        all_goals first
          | (go_ret; exact ⟨_, rfl, rfl⟩)
          | (go_roundg (n - (1 + 1)); (case measure => omega); (case rel => exact ⟨rfl, 1 + 1, by omega, rfl, by go_num⟩))
      · clear HB HN
        go_wp2
        all_goals first
          | (go_ret; exact ⟨_, rfl, rfl⟩)
          | (go_roundg (n - (2 + 1)); (case measure => omega); (case rel => exact ⟨rfl, 2 + 1, by omega, rfl, by go_num⟩))
      · clear HB HN
        go_wp2
        all_goals first
          | (go_ret; exact ⟨_, rfl, rfl⟩)
          | (go_roundg (n - (3 + 1)); (case measure => omega); (case rel => exact ⟨rfl, 3 + 1, by omega, rfl, by go_num⟩))
      · clear HB HN
        go_wp2
        all_goals first
          | (go_ret; exact ⟨_, rfl, rfl⟩)
          | (go_roundg (n - (j + 1)); (case measure => omega); (case rel => exact ⟨rfl, j + 1, by omega, rfl, by go_num⟩))
    · obtain rfl : j = n := by omega
      clear HB HN
      go_wp2
      go_ret
      exact ⟨_, rfl, rfl⟩
set_option maxRecDepth 100000 in
set_option maxHeartbeats 8000000 in
theorem anyPrefixtrue (l : List UInt8) (g o cap : Nat) (w : World) (hb : BytesAt w g o l) (hm : l.length ≤ 100) (hlc : l.length ≤ cap) :
    Calls Tryd.prog 70 #[.slice (some ⟨g, o, none⟩) l.length cap, .bool true] w (SomeBool w) := by
  have HB := Lib.hid hb
  have HN : Hid (∀ j, j < l.length → 0 ≤ atL l j ∧ atL l j < 256) := Lib.hid fun j _ => atL_range l j
  clear hb
  generalize hn : l.length = n at *
  have HNL := Lib.hid hn
  clear hn
  go_enter Tryd.func70, Tryd.ntmps70
  go_wp2
  go_loopg [9] n (fun q i wx => wx = w ∧ ∃ j : Nat, j ≤ n ∧ q = n - j ∧ i = .int .i64 j)
  case atStart => exact ⟨rfl, 0, by omega, rfl, rfl⟩
  case round =>
    obtain ⟨rfl, j, hj, rfl, rfl⟩ := hrel
    by_cases hjn : j < n
    · have ck := HB.out j (by rw [HNL.out]; exact hjn)
      have hr := HN.out j hjn
      generalize atL l j = c at ck hr
      rcases (show j = 0 ∨ j = 1 ∨ j = 2 ∨ j = 3 ∨ 4 ≤ j by omega) with rfl | rfl | rfl | rfl | hj4
      · rw [Nat.add_zero] at ck
        clear HB HN
        go_wp2
        all_goals first
          | (go_ret; exact ⟨_, rfl, rfl⟩)
          | (go_roundg (n - (0 + 1)); (case measure => omega); (case rel => exact ⟨rfl, 0 + 1, by omega, rfl, by go_num⟩))
      · clear HB HN
        go_wp2
        all_goals first
          | (go_ret; exact ⟨_, rfl, rfl⟩)
          | (go_roundg (n - (1 + 1)); (case measure => omega); (case rel => exact ⟨rfl, 1 + 1, by omega, rfl, by go_num⟩))
      · clear HB HN
        go_wp2
        all_goals first
          | (go_ret; exact ⟨_, rfl, rfl⟩)
          | (go_roundg (n - (2 + 1)); (case measure => omega); (case rel => exact ⟨rfl, 2 + 1, by omega, rfl, by go_num⟩))
      · clear HB HN
        go_wp2
        all_goals first
          | (go_ret; exact ⟨_, rfl, rfl⟩)
          | (go_roundg (n - (3 + 1)); (case measure => omega); (case rel => exact ⟨rfl, 3 + 1, by omega, rfl, by go_num⟩))
      · clear HB HN
        go_wp2
        all_goals first
          | (go_ret; exact ⟨_, rfl, rfl⟩)
          | (go_roundg (n - (j + 1)); (case measure => omega); (case rel => exact ⟨rfl, j + 1, by omega, rfl, by go_num⟩))
    · obtain rfl : j = n := by omega
      clear HB HN
      go_wp2
      go_ret
      exact ⟨_, rfl, rfl⟩
theorem anyPrefix (l : List UInt8) (g o cap : Nat) (low : Bool) (w : World) (hb : BytesAt w g o l) (hm : l.length ≤ 100) (hlc : l.length ≤ cap) :
    Calls Tryd.prog 70 #[.slice (some ⟨g, o, none⟩) l.length cap, .bool low] w (SomeBool w) := by
  cases low
  · exact anyPrefixfalse l g o cap w hb hm hlc
  · exact anyPrefixtrue l g o cap w hb hm hlc
end Go.Proofs.YtldcoaigecnpfaaDoor
namespace Go.Proofs.YtldcoaigecnpfaaDoor
open Go.RowKit
def AnyBool (w : World) (e : Ending) (w' : World) : Prop := (∃ r : Bool, e = .returned (.bool r)) ∧ Below w.heap.size w w'
set_option maxRecDepth 100000 in
set_option maxHeartbeats 8000000 in
theorem anyRune (l : List UInt8) (g o cap : Nat) (w : World) (hT : Lib.Utf8Tabs 3 4 w) (hb : BytesAt w g o l) (h0 : 128 ≤ natL l 0) (h2 : 1 ≤ l.length) (hm : l.length ≤ 140737488355328) :
    Calls Tryd.prog 76 #[.slice (some ⟨g, o, none⟩) l.length cap] w (AnyBool w) := by
  have hlt := natL_lt l 0
  have c0 := hb 0 (by omega)
  rw [Nat.add_zero, natL_at] at c0
  have hf := hT.1 (natL l 0) hlt
  have hacc := hT.2
  have hx : Lib.firstT (natL l 0) = 241 ∨ Lib.firstT (natL l 0) = 2 ∨ Lib.firstT (natL l 0) = 19 ∨ Lib.firstT (natL l 0) = 3 ∨ Lib.firstT (natL l 0) = 35 ∨ Lib.firstT (natL l 0) = 52 ∨ Lib.firstT (natL l 0) = 4 ∨ Lib.firstT (natL l 0) = 68 := by
    have := Lib.firstT_cases (natL l 0)
    rcases this with q | q
    · exfalso
      unfold Lib.firstT at q
      (repeat' split at q) <;> omega
    · exact q
  have hbw : g < w.heap.size := World.block_lt_of_cell? _ _ c0
  have hb1 : ∀ h : 2 ≤ l.length, w.cell? ⟨g, o + 1, none⟩ = some (.int .u8 (natL l 1)) := fun h => by have := hb 1 (by omega); rw [natL_at] at this; exact this
  have hb2 : ∀ h : 3 ≤ l.length, w.cell? ⟨g, o + 2, none⟩ = some (.int .u8 (natL l 2)) := fun h => by have := hb 2 (by omega); rw [natL_at] at this; exact this
  have ha0 := hacc 0 (by decide)
  have ha1 := hacc 1 (by decide)
  have ha2 := hacc 2 (by decide)
  have ha3 := hacc 3 (by decide)
  have ha4 := hacc 4 (by decide)
  simp only [Lib.accLo, Lib.accHi, Nat.reduceMul, Nat.reduceAdd, Nat.reduceEqDiff, if_true, if_false] at ha0 ha1 ha2 ha3 ha4
  clear hT hb hacc
  generalize Lib.firstT (natL l 0) = x at *
  generalize natL l 0 = b0 at *
  generalize natL l 1 = b1 at *
  generalize natL l 2 = b2 at *
  generalize l.length = n at *
  have hn : n = 1 ∨ n = 2 ∨ n = 3 ∨ 4 ≤ n := by omega
  have c0' : w.cell? ⟨g, o, none⟩ = some (.int .u8 b0) := c0
  clear c0
  rcases hx with rfl | rfl | rfl | rfl | rfl | rfl | rfl | rfl
  · have hf' : w.cell? ⟨3, b0, none⟩ = some (.int .u8 241) := hf
    clear hf
    clear hn ha0 ha1 ha2 ha3 ha4 hb1 hb2
    go_enter Tryd.func76, Tryd.ntmps76
    go_wp2
    all_goals first
      | (go_ret; exact ⟨⟨_, rfl⟩, Below.refl _ _⟩)
      | (go_region; go_wp2; all_goals (go_ret; exact ⟨⟨_, rfl⟩, ⟨rfl, rfl, rfl, by simp, fun k hk => alloc_old w _ k hk⟩⟩))
  · have hf' : w.cell? ⟨3, b0, none⟩ = some (.int .u8 2) := hf
    clear hf
    have hA : w.cell? ⟨4, 0, none⟩ = some (.int .u8 128) := ha0.1
    have hA2 : w.cell? ⟨4, 1, none⟩ = some (.int .u8 191) := ha0.2
    clear ha0 ha1 ha2 ha3 ha4
    rcases hn with rfl | rfl | rfl | hn
    · clear hb1 hb2
      go_enter Tryd.func76, Tryd.ntmps76
      go_wp2
      all_goals first
        | (go_ret; exact ⟨⟨_, rfl⟩, Below.refl _ _⟩)
        | (go_region; go_wp2; all_goals (go_ret; exact ⟨⟨_, rfl⟩, ⟨rfl, rfl, rfl, by simp, fun k hk => alloc_old w _ k hk⟩⟩))
    · have c1 := hb1 (by omega)
      clear hb1 hb2
      obtain ⟨p0, q0⟩ : ∃ p : Bool, decide (((b1 : Nat) : Int) < 128) = p := ⟨_, rfl⟩
      obtain ⟨p1, q1⟩ : ∃ p : Bool, decide ((191 : Int) < ((b1 : Nat) : Int)) = p := ⟨_, rfl⟩
      cases p0 <;> cases p1 <;> (
        go_enter Tryd.func76, Tryd.ntmps76
        go_wp2
        all_goals first
          | (go_ret; exact ⟨⟨_, rfl⟩, Below.refl _ _⟩)
          | (go_region; go_wp2; all_goals (go_ret; exact ⟨⟨_, rfl⟩, ⟨rfl, rfl, rfl, by simp, fun k hk => alloc_old w _ k hk⟩⟩)))
    · have c1 := hb1 (by omega)
      have c2 := hb2 (by omega)
      clear hb1 hb2
      obtain ⟨p0, q0⟩ : ∃ p : Bool, decide (((b1 : Nat) : Int) < 128) = p := ⟨_, rfl⟩
      obtain ⟨p1, q1⟩ : ∃ p : Bool, decide ((191 : Int) < ((b1 : Nat) : Int)) = p := ⟨_, rfl⟩
      obtain ⟨p2, q2⟩ : ∃ p : Bool, decide (((b2 : Nat) : Int) < 128) = p := ⟨_, rfl⟩
      obtain ⟨p3, q3⟩ : ∃ p : Bool, decide ((191 : Int) < ((b2 : Nat) : Int)) = p := ⟨_, rfl⟩
      cases p0 <;> cases p1 <;> cases p2 <;> cases p3 <;> (
        go_enter Tryd.func76, Tryd.ntmps76
        go_wp2
        all_goals first
          | (go_ret; exact ⟨⟨_, rfl⟩, Below.refl _ _⟩)
          | (go_region; go_wp2; all_goals (go_ret; exact ⟨⟨_, rfl⟩, ⟨rfl, rfl, rfl, by simp, fun k hk => alloc_old w _ k hk⟩⟩)))
    · clear hb1 hb2
      go_enter Tryd.func76, Tryd.ntmps76
      go_wp2
      all_goals first
        | (go_ret; exact ⟨⟨_, rfl⟩, Below.refl _ _⟩)
        | (go_region; go_wp2; all_goals (go_ret; exact ⟨⟨_, rfl⟩, ⟨rfl, rfl, rfl, by simp, fun k hk => alloc_old w _ k hk⟩⟩))
  · have hf' : w.cell? ⟨3, b0, none⟩ = some (.int .u8 19) := hf
    clear hf
    have hA : w.cell? ⟨4, 2, none⟩ = some (.int .u8 160) := ha1.1
    have hA2 : w.cell? ⟨4, 3, none⟩ = some (.int .u8 191) := ha1.2
    clear ha0 ha1 ha2 ha3 ha4
    rcases hn with rfl | rfl | rfl | hn
    · clear hb1 hb2
      go_enter Tryd.func76, Tryd.ntmps76
      go_wp2
      all_goals first
        | (go_ret; exact ⟨⟨_, rfl⟩, Below.refl _ _⟩)
        | (go_region; go_wp2; all_goals (go_ret; exact ⟨⟨_, rfl⟩, ⟨rfl, rfl, rfl, by simp, fun k hk => alloc_old w _ k hk⟩⟩))
    · have c1 := hb1 (by omega)
      clear hb1 hb2
      obtain ⟨p0, q0⟩ : ∃ p : Bool, decide (((b1 : Nat) : Int) < 160) = p := ⟨_, rfl⟩
      obtain ⟨p1, q1⟩ : ∃ p : Bool, decide ((191 : Int) < ((b1 : Nat) : Int)) = p := ⟨_, rfl⟩
      cases p0 <;> cases p1 <;> (
        go_enter Tryd.func76, Tryd.ntmps76
        go_wp2
        all_goals first
          | (go_ret; exact ⟨⟨_, rfl⟩, Below.refl _ _⟩)
          | (go_region; go_wp2; all_goals (go_ret; exact ⟨⟨_, rfl⟩, ⟨rfl, rfl, rfl, by simp, fun k hk => alloc_old w _ k hk⟩⟩)))
    · have c1 := hb1 (by omega)
      have c2 := hb2 (by omega)
      clear hb1 hb2
      obtain ⟨p0, q0⟩ : ∃ p : Bool, decide (((b1 : Nat) : Int) < 160) = p := ⟨_, rfl⟩
      obtain ⟨p1, q1⟩ : ∃ p : Bool, decide ((191 : Int) < ((b1 : Nat) : Int)) = p := ⟨_, rfl⟩
      obtain ⟨p2, q2⟩ : ∃ p : Bool, decide (((b2 : Nat) : Int) < 128) = p := ⟨_, rfl⟩
      obtain ⟨p3, q3⟩ : ∃ p : Bool, decide ((191 : Int) < ((b2 : Nat) : Int)) = p := ⟨_, rfl⟩
      cases p0 <;> cases p1 <;> cases p2 <;> cases p3 <;> (
        go_enter Tryd.func76, Tryd.ntmps76
        go_wp2
        all_goals first
          | (go_ret; exact ⟨⟨_, rfl⟩, Below.refl _ _⟩)
          | (go_region; go_wp2; all_goals (go_ret; exact ⟨⟨_, rfl⟩, ⟨rfl, rfl, rfl, by simp, fun k hk => alloc_old w _ k hk⟩⟩)))
    · clear hb1 hb2
      go_enter Tryd.func76, Tryd.ntmps76
      go_wp2
      all_goals first
        | (go_ret; exact ⟨⟨_, rfl⟩, Below.refl _ _⟩)
        | (go_region; go_wp2; all_goals (go_ret; exact ⟨⟨_, rfl⟩, ⟨rfl, rfl, rfl, by simp, fun k hk => alloc_old w _ k hk⟩⟩))
  · have hf' : w.cell? ⟨3, b0, none⟩ = some (.int .u8 3) := hf
    clear hf
    have hA : w.cell? ⟨4, 0, none⟩ = some (.int .u8 128) := ha0.1
    have hA2 : w.cell? ⟨4, 1, none⟩ = some (.int .u8 191) := ha0.2
    clear ha0 ha1 ha2 ha3 ha4
    rcases hn with rfl | rfl | rfl | hn
    · clear hb1 hb2
      go_enter Tryd.func76, Tryd.ntmps76
      go_wp2
      all_goals first
        | (go_ret; exact ⟨⟨_, rfl⟩, Below.refl _ _⟩)
        | (go_region; go_wp2; all_goals (go_ret; exact ⟨⟨_, rfl⟩, ⟨rfl, rfl, rfl, by simp, fun k hk => alloc_old w _ k hk⟩⟩))
    · have c1 := hb1 (by omega)
      clear hb1 hb2
      obtain ⟨p0, q0⟩ : ∃ p : Bool, decide (((b1 : Nat) : Int) < 128) = p := ⟨_, rfl⟩
      obtain ⟨p1, q1⟩ : ∃ p : Bool, decide ((191 : Int) < ((b1 : Nat) : Int)) = p := ⟨_, rfl⟩
      cases p0 <;> cases p1 <;> (
        go_enter Tryd.func76, Tryd.ntmps76
        go_wp2
        all_goals first
          | (go_ret; exact ⟨⟨_, rfl⟩, Below.refl _ _⟩)
          | (go_region; go_wp2; all_goals (go_ret; exact ⟨⟨_, rfl⟩, ⟨rfl, rfl, rfl, by simp, fun k hk => alloc_old w _ k hk⟩⟩)))
    · have c1 := hb1 (by omega)
      have c2 := hb2 (by omega)
      clear hb1 hb2
      obtain ⟨p0, q0⟩ : ∃ p : Bool, decide (((b1 : Nat) : Int) < 128) = p := ⟨_, rfl⟩
      obtain ⟨p1, q1⟩ : ∃ p : Bool, decide ((191 : Int) < ((b1 : Nat) : Int)) = p := ⟨_, rfl⟩
      obtain ⟨p2, q2⟩ : ∃ p : Bool, decide (((b2 : Nat) : Int) < 128) = p := ⟨_, rfl⟩
      obtain ⟨p3, q3⟩ : ∃ p : Bool, decide ((191 : Int) < ((b2 : Nat) : Int)) = p := ⟨_, rfl⟩
      cases p0 <;> cases p1 <;> cases p2 <;> cases p3 <;> (
        go_enter Tryd.func76, Tryd.ntmps76
        go_wp2
        all_goals first
          | (go_ret; exact ⟨⟨_, rfl⟩, Below.refl _ _⟩)
          | (go_region; go_wp2; all_goals (go_ret; exact ⟨⟨_, rfl⟩, ⟨rfl, rfl, rfl, by simp, fun k hk => alloc_old w _ k hk⟩⟩)))
    · clear hb1 hb2
      go_enter Tryd.func76, Tryd.ntmps76
      go_wp2
      all_goals first
        | (go_ret; exact ⟨⟨_, rfl⟩, Below.refl _ _⟩)
        | (go_region; go_wp2; all_goals (go_ret; exact ⟨⟨_, rfl⟩, ⟨rfl, rfl, rfl, by simp, fun k hk => alloc_old w _ k hk⟩⟩))
  · have hf' : w.cell? ⟨3, b0, none⟩ = some (.int .u8 35) := hf
    clear hf
    have hA : w.cell? ⟨4, 4, none⟩ = some (.int .u8 128) := ha2.1
    have hA2 : w.cell? ⟨4, 5, none⟩ = some (.int .u8 159) := ha2.2
    clear ha0 ha1 ha2 ha3 ha4
    rcases hn with rfl | rfl | rfl | hn
    · clear hb1 hb2
      go_enter Tryd.func76, Tryd.ntmps76
      go_wp2
      all_goals first
        | (go_ret; exact ⟨⟨_, rfl⟩, Below.refl _ _⟩)
        | (go_region; go_wp2; all_goals (go_ret; exact ⟨⟨_, rfl⟩, ⟨rfl, rfl, rfl, by simp, fun k hk => alloc_old w _ k hk⟩⟩))
    · have c1 := hb1 (by omega)
      clear hb1 hb2
      obtain ⟨p0, q0⟩ : ∃ p : Bool, decide (((b1 : Nat) : Int) < 128) = p := ⟨_, rfl⟩
      obtain ⟨p1, q1⟩ : ∃ p : Bool, decide ((159 : Int) < ((b1 : Nat) : Int)) = p := ⟨_, rfl⟩
      cases p0 <;> cases p1 <;> (
        go_enter Tryd.func76, Tryd.ntmps76
        go_wp2
        all_goals first
          | (go_ret; exact ⟨⟨_, rfl⟩, Below.refl _ _⟩)
          | (go_region; go_wp2; all_goals (go_ret; exact ⟨⟨_, rfl⟩, ⟨rfl, rfl, rfl, by simp, fun k hk => alloc_old w _ k hk⟩⟩)))
    · have c1 := hb1 (by omega)
      have c2 := hb2 (by omega)
      clear hb1 hb2
      obtain ⟨p0, q0⟩ : ∃ p : Bool, decide (((b1 : Nat) : Int) < 128) = p := ⟨_, rfl⟩
      obtain ⟨p1, q1⟩ : ∃ p : Bool, decide ((159 : Int) < ((b1 : Nat) : Int)) = p := ⟨_, rfl⟩
      obtain ⟨p2, q2⟩ : ∃ p : Bool, decide (((b2 : Nat) : Int) < 128) = p := ⟨_, rfl⟩
      obtain ⟨p3, q3⟩ : ∃ p : Bool, decide ((191 : Int) < ((b2 : Nat) : Int)) = p := ⟨_, rfl⟩
      cases p0 <;> cases p1 <;> cases p2 <;> cases p3 <;> (
        go_enter Tryd.func76, Tryd.ntmps76
        go_wp2
        all_goals first
          | (go_ret; exact ⟨⟨_, rfl⟩, Below.refl _ _⟩)
          | (go_region; go_wp2; all_goals (go_ret; exact ⟨⟨_, rfl⟩, ⟨rfl, rfl, rfl, by simp, fun k hk => alloc_old w _ k hk⟩⟩)))
    · clear hb1 hb2
      go_enter Tryd.func76, Tryd.ntmps76
      go_wp2
      all_goals first
        | (go_ret; exact ⟨⟨_, rfl⟩, Below.refl _ _⟩)
        | (go_region; go_wp2; all_goals (go_ret; exact ⟨⟨_, rfl⟩, ⟨rfl, rfl, rfl, by simp, fun k hk => alloc_old w _ k hk⟩⟩))
  · have hf' : w.cell? ⟨3, b0, none⟩ = some (.int .u8 52) := hf
    clear hf
    have hA : w.cell? ⟨4, 6, none⟩ = some (.int .u8 144) := ha3.1
    have hA2 : w.cell? ⟨4, 7, none⟩ = some (.int .u8 191) := ha3.2
    clear ha0 ha1 ha2 ha3 ha4
    rcases hn with rfl | rfl | rfl | hn
    · clear hb1 hb2
      go_enter Tryd.func76, Tryd.ntmps76
      go_wp2
      all_goals first
        | (go_ret; exact ⟨⟨_, rfl⟩, Below.refl _ _⟩)
        | (go_region; go_wp2; all_goals (go_ret; exact ⟨⟨_, rfl⟩, ⟨rfl, rfl, rfl, by simp, fun k hk => alloc_old w _ k hk⟩⟩))
    · have c1 := hb1 (by omega)
      clear hb1 hb2
      obtain ⟨p0, q0⟩ : ∃ p : Bool, decide (((b1 : Nat) : Int) < 144) = p := ⟨_, rfl⟩
      obtain ⟨p1, q1⟩ : ∃ p : Bool, decide ((191 : Int) < ((b1 : Nat) : Int)) = p := ⟨_, rfl⟩
      cases p0 <;> cases p1 <;> (
        go_enter Tryd.func76, Tryd.ntmps76
        go_wp2
        all_goals first
          | (go_ret; exact ⟨⟨_, rfl⟩, Below.refl _ _⟩)
          | (go_region; go_wp2; all_goals (go_ret; exact ⟨⟨_, rfl⟩, ⟨rfl, rfl, rfl, by simp, fun k hk => alloc_old w _ k hk⟩⟩)))
    · have c1 := hb1 (by omega)
      have c2 := hb2 (by omega)
      clear hb1 hb2
      obtain ⟨p0, q0⟩ : ∃ p : Bool, decide (((b1 : Nat) : Int) < 144) = p := ⟨_, rfl⟩
      obtain ⟨p1, q1⟩ : ∃ p : Bool, decide ((191 : Int) < ((b1 : Nat) : Int)) = p := ⟨_, rfl⟩
      obtain ⟨p2, q2⟩ : ∃ p : Bool, decide (((b2 : Nat) : Int) < 128) = p := ⟨_, rfl⟩
      obtain ⟨p3, q3⟩ : ∃ p : Bool, decide ((191 : Int) < ((b2 : Nat) : Int)) = p := ⟨_, rfl⟩
      cases p0 <;> cases p1 <;> cases p2 <;> cases p3 <;> (
        go_enter Tryd.func76, Tryd.ntmps76
        go_wp2
        all_goals first
          | (go_ret; exact ⟨⟨_, rfl⟩, Below.refl _ _⟩)
          | (go_region; go_wp2; all_goals (go_ret; exact ⟨⟨_, rfl⟩, ⟨rfl, rfl, rfl, by simp, fun k hk => alloc_old w _ k hk⟩⟩)))
    · clear hb1 hb2
      go_enter Tryd.func76, Tryd.ntmps76
      go_wp2
      all_goals first
        | (go_ret; exact ⟨⟨_, rfl⟩, Below.refl _ _⟩)
        | (go_region; go_wp2; all_goals (go_ret; exact ⟨⟨_, rfl⟩, ⟨rfl, rfl, rfl, by simp, fun k hk => alloc_old w _ k hk⟩⟩))
  · have hf' : w.cell? ⟨3, b0, none⟩ = some (.int .u8 4) := hf
    clear hf
    have hA : w.cell? ⟨4, 0, none⟩ = some (.int .u8 128) := ha0.1
    have hA2 : w.cell? ⟨4, 1, none⟩ = some (.int .u8 191) := ha0.2
    clear ha0 ha1 ha2 ha3 ha4
    rcases hn with rfl | rfl | rfl | hn
    · clear hb1 hb2
      go_enter Tryd.func76, Tryd.ntmps76
      go_wp2
      all_goals first
        | (go_ret; exact ⟨⟨_, rfl⟩, Below.refl _ _⟩)
        | (go_region; go_wp2; all_goals (go_ret; exact ⟨⟨_, rfl⟩, ⟨rfl, rfl, rfl, by simp, fun k hk => alloc_old w _ k hk⟩⟩))
    · have c1 := hb1 (by omega)
      clear hb1 hb2
      obtain ⟨p0, q0⟩ : ∃ p : Bool, decide (((b1 : Nat) : Int) < 128) = p := ⟨_, rfl⟩
      obtain ⟨p1, q1⟩ : ∃ p : Bool, decide ((191 : Int) < ((b1 : Nat) : Int)) = p := ⟨_, rfl⟩
      cases p0 <;> cases p1 <;> (
        go_enter Tryd.func76, Tryd.ntmps76
        go_wp2
        all_goals first
          | (go_ret; exact ⟨⟨_, rfl⟩, Below.refl _ _⟩)
          | (go_region; go_wp2; all_goals (go_ret; exact ⟨⟨_, rfl⟩, ⟨rfl, rfl, rfl, by simp, fun k hk => alloc_old w _ k hk⟩⟩)))
    · have c1 := hb1 (by omega)
      have c2 := hb2 (by omega)
      clear hb1 hb2
      obtain ⟨p0, q0⟩ : ∃ p : Bool, decide (((b1 : Nat) : Int) < 128) = p := ⟨_, rfl⟩
      obtain ⟨p1, q1⟩ : ∃ p : Bool, decide ((191 : Int) < ((b1 : Nat) : Int)) = p := ⟨_, rfl⟩
      obtain ⟨p2, q2⟩ : ∃ p : Bool, decide (((b2 : Nat) : Int) < 128) = p := ⟨_, rfl⟩
      obtain ⟨p3, q3⟩ : ∃ p : Bool, decide ((191 : Int) < ((b2 : Nat) : Int)) = p := ⟨_, rfl⟩
      cases p0 <;> cases p1 <;> cases p2 <;> cases p3 <;> (
        go_enter Tryd.func76, Tryd.ntmps76
        go_wp2
        all_goals first
          | (go_ret; exact ⟨⟨_, rfl⟩, Below.refl _ _⟩)
          | (go_region; go_wp2; all_goals (go_ret; exact ⟨⟨_, rfl⟩, ⟨rfl, rfl, rfl, by simp, fun k hk => alloc_old w _ k hk⟩⟩)))
    · clear hb1 hb2
      go_enter Tryd.func76, Tryd.ntmps76
      go_wp2
      all_goals first
        | (go_ret; exact ⟨⟨_, rfl⟩, Below.refl _ _⟩)
        | (go_region; go_wp2; all_goals (go_ret; exact ⟨⟨_, rfl⟩, ⟨rfl, rfl, rfl, by simp, fun k hk => alloc_old w _ k hk⟩⟩))
  · have hf' : w.cell? ⟨3, b0, none⟩ = some (.int .u8 68) := hf
    clear hf
    have hA : w.cell? ⟨4, 8, none⟩ = some (.int .u8 128) := ha4.1
    have hA2 : w.cell? ⟨4, 9, none⟩ = some (.int .u8 143) := ha4.2
    clear ha0 ha1 ha2 ha3 ha4
    rcases hn with rfl | rfl | rfl | hn
    · clear hb1 hb2
      go_enter Tryd.func76, Tryd.ntmps76
      go_wp2
      all_goals first
        | (go_ret; exact ⟨⟨_, rfl⟩, Below.refl _ _⟩)
        | (go_region; go_wp2; all_goals (go_ret; exact ⟨⟨_, rfl⟩, ⟨rfl, rfl, rfl, by simp, fun k hk => alloc_old w _ k hk⟩⟩))
    · have c1 := hb1 (by omega)
      clear hb1 hb2
      obtain ⟨p0, q0⟩ : ∃ p : Bool, decide (((b1 : Nat) : Int) < 128) = p := ⟨_, rfl⟩
      obtain ⟨p1, q1⟩ : ∃ p : Bool, decide ((143 : Int) < ((b1 : Nat) : Int)) = p := ⟨_, rfl⟩
      cases p0 <;> cases p1 <;> (
        go_enter Tryd.func76, Tryd.ntmps76
        go_wp2
        all_goals first
          | (go_ret; exact ⟨⟨_, rfl⟩, Below.refl _ _⟩)
          | (go_region; go_wp2; all_goals (go_ret; exact ⟨⟨_, rfl⟩, ⟨rfl, rfl, rfl, by simp, fun k hk => alloc_old w _ k hk⟩⟩)))
    · have c1 := hb1 (by omega)
      have c2 := hb2 (by omega)
      clear hb1 hb2
      obtain ⟨p0, q0⟩ : ∃ p : Bool, decide (((b1 : Nat) : Int) < 128) = p := ⟨_, rfl⟩
      obtain ⟨p1, q1⟩ : ∃ p : Bool, decide ((143 : Int) < ((b1 : Nat) : Int)) = p := ⟨_, rfl⟩
      obtain ⟨p2, q2⟩ : ∃ p : Bool, decide (((b2 : Nat) : Int) < 128) = p := ⟨_, rfl⟩
      obtain ⟨p3, q3⟩ : ∃ p : Bool, decide ((191 : Int) < ((b2 : Nat) : Int)) = p := ⟨_, rfl⟩
      cases p0 <;> cases p1 <;> cases p2 <;> cases p3 <;> (
        go_enter Tryd.func76, Tryd.ntmps76
        go_wp2
        all_goals first
          | (go_ret; exact ⟨⟨_, rfl⟩, Below.refl _ _⟩)
          | (go_region; go_wp2; all_goals (go_ret; exact ⟨⟨_, rfl⟩, ⟨rfl, rfl, rfl, by simp, fun k hk => alloc_old w _ k hk⟩⟩)))
    · clear hb1 hb2
      go_enter Tryd.func76, Tryd.ntmps76
      go_wp2
      all_goals first
        | (go_ret; exact ⟨⟨_, rfl⟩, Below.refl _ _⟩)
        | (go_region; go_wp2; all_goals (go_ret; exact ⟨⟨_, rfl⟩, ⟨rfl, rfl, rfl, by simp, fun k hk => alloc_old w _ k hk⟩⟩))
end Go.Proofs.YtldcoaigecnpfaaDoor
namespace Go.Proofs.YtldcoaigecnpfaaDoor
open Go.RowKit
def OwnPost (w : World) (e : Ending) (w' : World) : Prop := (∃ p : Addr, e = .returned (.iface 128 (.pointer (some p)))) ∧ Below w.heap.size w w'
set_option maxRecDepth 100000 in
theorem newInvalid (l : List UInt8) (b off cap : Nat) (x : ByteArray) (w : World) (hT : Lib.Utf8Tabs 3 4 w) (hp : BytesAt w b off l) (hl : 0 < l.length) (hlc : l.length ≤ cap) (hbw : b < w.heap.size) :
    Calls Tryd.prog 68 #[.slice (some ⟨b, off, none⟩) l.length cap, .string x] w (OwnPost w) := by
  have hd := decodeRune l b off cap w hT hp hl
  have h1 := decN_two l hl
  have h2 := decW_range l hl
  rw [← h1] at h2
  clear h1
  generalize decN l = q at hd h2
  obtain ⟨r, m⟩ := q
  simp only at hd h2
  have hm : m ≤ l.length := by omega
  have hmc : m ≤ cap := by omega
  have hm0 : 1 ≤ m := by omega
  have HD := Lib.hid hd
  have HP := Lib.hid hp
  clear hd h2 hp
  go_enter Tryd.func68, Tryd.ntmps68
  go_wp2_with fail
  refine HD.out.mono ?_
  rintro e w' ⟨rfl, hb⟩
  have HB := Lib.hid hb
  have hcv : (convert 23 9 (.slice (some ⟨b, off, none⟩) m cap)).run Tryd.prog w' = .ok (.string (strOfNums ((List.range m).map (atL l)))) w' :=
    run_convert_bytes_arg _ _ 5 Tryd.underlying23 Tryd.underlying5 b off m cap _ (by simp) (fun i hi => by
      have hil : i < l.length := by omega
      rw [World.cell?_of_block (a := ⟨b, off + i, none⟩) (hb.block b hbw), HP.out i (by omega)]
      simp [atL, List.getD_eq_getElem?_getD, hi, hil]) 9 Tryd.underlying9
  generalize strOfNums ((List.range m).map (atL l)) = y at hcv
  clear hb HD HP
  go_wp2
  go_ret
  exact ⟨⟨_, rfl⟩, HB.out.alloc HB.out.size _⟩
end Go.Proofs.YtldcoaigecnpfaaDoor
