/- The statement FnOldUnquote, walked: it returns true, and leaves all that lay below as it was. Condition: the tables of unicode/utf8 hold what their initialisers lay. -/
import Derived.Test.YtklncgmfbflooaaDoorOldUnquote
import Derived.Test.YtklncgmfbflooaaDoorTakenStr
import Derived.Test.YtklncgmfbflooaaDoorTaken
import Derived.Test.YtklncgmfbflooaaDoorFits
import Derived.Test.YtklncgmfbflooaaDoorClose
namespace Go.Proofs.YtklncgmfbflooaaDoor
open Go.RowKit
theorem taken_pos (l : List UInt8) (h : takenB l = true) : 1 ≤ l.length := by
  match l with
  | [] => exact absurd h (by decide)
  | _ :: _ => simp
theorem ext_list (s : ByteArray) (i j : Nat) (h : j ≤ s.size) : (s.extract i j).data.toList = (s.data.toList.drop i).take (j - i) := by
  rw [ByteArray.data_extract, Array.toList_extract, List.extract_eq_take_drop]
theorem text_within (s : ByteArray) (m : List UInt8) (h : s.data.toList = qT m) : 2 ≤ s.size ∧ (s.extract 1 (s.size - 1)).data.toList = m := by
  have hz : s.size = m.length + 2 := by rw [← size_list, h, qT_length]
  refine ⟨by omega, ?_⟩
  rw [ext_list _ _ _ (by omega), h, hz]
  simp [qT]
set_option maxRecDepth 100000 in
set_option maxHeartbeats 4000000 in
theorem law_walk (s : ByteArray) (w : World) (hU : Lib.Utf8Tabs 3 4 w) (hs : s.size ≤ 2147483647) :
    Calls Tryd.prog 5 #[.string s] w fun e w' => e = .returned (.bool true) ∧ Below w.heap.size w w' := by
  have hu1 : 3 < w.heap.size := World.block_lt_of_cell? _ _ (hU.1 0 (by decide))
  have hu2 : 4 < w.heap.size := World.block_lt_of_cell? _ _ (hU.2 0 (by decide)).1
  have HG : Hid (∀ W : World, Calls Tryd.prog 10 #[.slice (some ⟨W.heap.size, 0, none⟩) 1 1] (W.alloc (Obj.cells #[.string s] 9)) fun e w' => e = .returned (.bool (okFit s)) ∧ W.alloc (Obj.cells #[.string s] 9) = w') := Lib.hid fun W => fit1 s W hs
  have HO := Lib.hid (fun W : World => oldRules W)
  have HT : Hid (∀ W : World, Calls Tryd.prog 8 #[.string s, .agg #[.bool true, .bool true]] W fun e w' => e = .returned (.tuple #[.bool (takenB s.data.toList), .bool true]) ∧ Below W.heap.size W w') := Lib.hid fun W => takenS s W hs
  have HF : Hid (takenB s.data.toList = true → 1 ≤ s.size) := Lib.hid fun h => by have := taken_pos _ h; rw [size_list] at this; exact this
  have HZ : Hid (okFit s = true → s.size ≤ 1000) := Lib.hid fun h => by unfold okFit at h; simpa using h
  have HA : Hid (∀ k (h : k < s.size), (((s[k]'h).toNat : Nat) : Int) = atL s.data.toList k) := Lib.hid fun k h => at_eq s k h
  have HM : Hid (takenB s.data.toList = true → okFit s = true → atL s.data.toList 0 = 34 → atL s.data.toList (s.size - 1) = 34 → ∃ X : ByteArray, (∀ W, Calls Tryd.prog 16 #[.string s] W fun e w' => (∃ b : Bool, e = .returned (.tuple #[.string X, .bool b])) ∧ Below W.heap.size W w') ∧ (∀ W, Below w.heap.size w W → Calls Tryd.prog 17 #[.string s] W fun e w' => e = .returned (.tuple #[.string X, .bool true]) ∧ Below W.heap.size W w')) := Lib.hid fun ht hg h0 h1 => by
    have hz := HZ.out hg
    obtain ⟨m, hm, hok⟩ := taken_str s.data.toList ht h0 (by rw [size_list]; exact h1)
    have hw := text_within s m hm
    exact ⟨⟨(dcL m).toArray⟩, fun W => decodeS s m W (by omega) hw.1 hw.2 hok, fun W hb => oldUnquote s m W hm (by omega) (u8_below hU hb hu1 hu2) hok⟩
  clear hU hu1 hu2
  generalize takenB s.data.toList = t at HT HF HM
  generalize okFit s = g at HG HM HZ
  cases g
  · clear HM HF HA HZ
    go_enter Tryd.func5, Tryd.ntmps5
    go_wp2_with fail
    refine (HO.out _).mono ?_
    rintro e w1 ⟨rfl, hb1⟩
    have HB1 := Lib.hid hb1
    clear hb1
    go_wp2_with fail
    refine (HT.out _).mono ?_
    rintro e w2 ⟨rfl, hb2⟩
    have HB2 := Lib.hid (HB1.out.trans (hb2.mono HB1.out.size))
    clear hb2
    go_wp2_with fail
    refine (HG.out _).mono ?_
    rintro e w3 ⟨rfl, rfl⟩
    have HB3 := Lib.hid (HB2.out.alloc HB2.out.size (Obj.cells #[.string s] 9))
    go_wp2
    go_ret
    exact ⟨rfl, HB3.out⟩
  · cases t
    · clear HM HF HA HZ
      go_enter Tryd.func5, Tryd.ntmps5
      go_wp2_with fail
      refine (HO.out _).mono ?_
      rintro e w1 ⟨rfl, hb1⟩
      have HB1 := Lib.hid hb1
      clear hb1
      go_wp2_with fail
      refine (HT.out _).mono ?_
      rintro e w2 ⟨rfl, hb2⟩
      have HB2 := Lib.hid (HB1.out.trans (hb2.mono HB1.out.size))
      clear hb2
      go_wp2_with fail
      refine (HG.out _).mono ?_
      rintro e w3 ⟨rfl, rfl⟩
      have HB3 := Lib.hid (HB2.out.alloc HB2.out.size (Obj.cells #[.string s] 9))
      go_wp2
      go_ret
      exact ⟨rfl, HB3.out⟩
    · have hp := HF.out rfl
      have hz := HZ.out rfl
      have hx0 := HA.out 0 hp
      have hx1 := HA.out (s.size - 1) (by omega)
      have hin : s.size - 1 < s.size := by omega
      by_cases h0 : atL s.data.toList 0 = 34
      · by_cases h1 : atL s.data.toList (s.size - 1) = 34
        · obtain ⟨X, HD, HU⟩ := HM.out rfl rfl h0 h1
          have HD2 := Lib.hid HD
          have HU2 := Lib.hid HU
          have hself : (X.toList == X.toList) = true := beq_self_eq_true _
          rw [h0] at hx0
          rw [h1] at hx1
          clear HD HU HM HF HA HZ h0 h1
          go_enter Tryd.func5, Tryd.ntmps5
          go_wp2_with fail
          refine (HO.out _).mono ?_
          rintro e w1 ⟨rfl, hb1⟩
          have HB1 := Lib.hid hb1
          clear hb1
          go_wp2_with fail
          refine (HT.out _).mono ?_
          rintro e w2 ⟨rfl, hb2⟩
          have HB2 := Lib.hid (HB1.out.trans (hb2.mono HB1.out.size))
          clear hb2
          go_wp2_with fail
          refine (HG.out _).mono ?_
          rintro e w3 ⟨rfl, rfl⟩
          have HB3 := Lib.hid (HB2.out.alloc HB2.out.size (Obj.cells #[.string s] 9))
          go_wp2_with fail
          refine (HD2.out _).mono ?_
          rintro e w4 ⟨⟨b4, rfl⟩, hb4⟩
          have HB4 := Lib.hid (HB3.out.trans (hb4.mono HB3.out.size))
          clear hb4
          go_wp2_with fail
          refine (HU2.out _ HB4.out).mono ?_
          rintro e w5 ⟨rfl, hb5⟩
          have HB5 := Lib.hid (HB4.out.trans (hb5.mono HB4.out.size))
          clear hb5
          go_wp2
          go_ret
          exact ⟨rfl, HB5.out⟩
        · rw [h0] at hx0
          have hne : ((((s[s.size - 1]'hin).toNat : Nat) : Int) == 34) = false := by rw [hx1]; simpa using h1
          clear HM HF HA HZ h0 h1 hx1
          go_enter Tryd.func5, Tryd.ntmps5
          go_wp2_with fail
          refine (HO.out _).mono ?_
          rintro e w1 ⟨rfl, hb1⟩
          have HB1 := Lib.hid hb1
          clear hb1
          go_wp2_with fail
          refine (HT.out _).mono ?_
          rintro e w2 ⟨rfl, hb2⟩
          have HB2 := Lib.hid (HB1.out.trans (hb2.mono HB1.out.size))
          clear hb2
          go_wp2_with fail
          refine (HG.out _).mono ?_
          rintro e w3 ⟨rfl, rfl⟩
          have HB3 := Lib.hid (HB2.out.alloc HB2.out.size (Obj.cells #[.string s] 9))
          go_wp2
          go_ret
          exact ⟨rfl, HB3.out⟩
      · have hne : ((((s[0]'hp).toNat : Nat) : Int) == 34) = false := by rw [hx0]; simpa using h0
        clear HM HF HA HZ h0 hx0 hx1
        go_enter Tryd.func5, Tryd.ntmps5
        go_wp2_with fail
        refine (HO.out _).mono ?_
        rintro e w1 ⟨rfl, hb1⟩
        have HB1 := Lib.hid hb1
        clear hb1
        go_wp2_with fail
        refine (HT.out _).mono ?_
        rintro e w2 ⟨rfl, hb2⟩
        have HB2 := Lib.hid (HB1.out.trans (hb2.mono HB1.out.size))
        clear hb2
        go_wp2_with fail
        refine (HG.out _).mono ?_
        rintro e w3 ⟨rfl, rfl⟩
        have HB3 := Lib.hid (HB2.out.alloc HB2.out.size (Obj.cells #[.string s] 9))
        go_wp2
        go_ret
        exact ⟨rfl, HB3.out⟩
theorem fnOldUnquote_any (s : ByteArray) (w : World) (_ : s.size ≤ maxLen) (hU : Lib.Utf8Tabs 3 4 w) :
    Calls Tryd.prog 5 #[.string s] w fun e w' => e = .returned (.bool true) ∧ Below w.heap.size w w' := by
  by_cases h : s.size ≤ 2147483647
  · exact law_walk s w hU h
  · have h' : 2147483647 < s.size := by omega
    go_enter Tryd.func5, Tryd.ntmps5
    go_wp2
    go_ret
    exact ⟨rfl, Below.refl _ _⟩
end Go.Proofs.YtklncgmfbflooaaDoor
