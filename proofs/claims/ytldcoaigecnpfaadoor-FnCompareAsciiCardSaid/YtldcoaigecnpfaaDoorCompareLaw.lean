/- The statement FnCompareAscii, walked: it returns true, and leaves all that lay below as it was. -/
import Derived.Test.YtldcoaigecnpfaaDoorCompare
import Derived.Test.YtldcoaigecnpfaaDoorFits
import Derived.Test.YtldcoaigecnpfaaDoorUtf
import Derived.Laws.AppendOwn
import Derived.Shelf.Unicode.DecodeSlow
import Derived.Test.YtldcoaigecnpfaaDoorClose
namespace Go.Proofs.YtldcoaigecnpfaaDoor
open Go.RowKit
theorem cmp_below_drewN {B : Nat} {a w : World} (h : Below B a w) (n : Nat) : Below B a (w.drewN n) := ⟨h.os, h.tape, h.output, h.size, h.block⟩
def CnPost (c : Int) (w : World) (e : Ending) (w' : World) : Prop := e = .returned (.int .i64 c) ∧ Below w.heap.size w w'
set_option maxRecDepth 100000 in
theorem compareNames (a b : ByteArray) (w : World) (h1 : a.size ≤ 2147483647) (h2 : b.size ≤ 2147483647) (ha : Asc a.data.toList) (hb : Asc b.data.toList) :
    Calls Tryd.prog 13 #[.string a, .string b] w (CnPost (cmpL a.data.toList b.data.toList) w) := by
  have c1 := run_conv a w
  have c2 := run_conv b (convWorld w a)
  have b1 := conv_below a w
  have b2 := conv_below b (convWorld w a)
  have hbel : Below w.heap.size w (convWorld (convWorld w a) b) := b1.trans (b2.mono b1.size)
  have m1 : BytesAt (convWorld (convWorld w a) b) w.heap.size 0 a.data.toList := (conv_bytes a w).below b2 (by rw [conv_size]; omega)
  have m2 : BytesAt (convWorld (convWorld w a) b) (convWorld w a).heap.size 0 b.data.toList := conv_bytes b (convWorld w a)
  have g1 : a.size ≤ convCap w a := grownCap_ge _ _ _ _
  have g2 : b.size ≤ convCap (convWorld w a) b := grownCap_ge _ _ _ _
  have k1 : convCap w a ≤ maxLen := grownCap_le_maxLen _ _ _ _ (by unfold maxLen; omega)
  have k2 : convCap (convWorld w a) b ≤ maxLen := grownCap_le_maxLen _ _ _ _ (by unfold maxLen; omega)
  have hc := compare (.slice (some ⟨w.heap.size, 0, none⟩) a.size (convCap w a)) (.slice (some ⟨(convWorld w a).heap.size, 0, none⟩) b.size (convCap (convWorld w a) b)) a.data.toList b.data.toList (convWorld (convWorld w a) b)
    ⟨_, _, _, by rw [size_list], by rw [size_list]; exact g1, k1, m1⟩ ⟨_, _, _, by rw [size_list], by rw [size_list]; exact g2, k2, m2⟩ (by rw [size_list]; exact h1) (by rw [size_list]; exact h2) ha hb
  generalize cmpL a.data.toList b.data.toList = C at hc ⊢
  clear m1 m2 g1 g2 k1 k2 b1 b2 ha hb
  generalize convCap (convWorld w a) b = q2 at hc c2
  generalize convCap w a = q1 at hc c1
  generalize convWorld (convWorld w a) b = W2 at hc c2 hbel
  generalize convWorld w a = W1 at hc c1 c2
  have HC := Lib.hid hc
  have HB := Lib.hid hbel
  clear hc hbel
  go_enter Tryd.func13, Tryd.ntmps13
  go_wp2_with fail
  refine HC.out.mono ?_
  rintro e w' ⟨rfl, n, rfl⟩
  clear c1 c2
  go_wp2
  go_ret
  exact ⟨rfl, cmp_below_drewN HB.out n⟩
/-- The first k bytes of both texts, one behind the other, are ASCII. -/
def AscTo (a b : ByteArray) (k : Nat) : Prop := (∀ j (h : j < a.size), j < k → ((a[j]'h).toNat : Int) < 128) ∧ (∀ j (h : j < b.size), a.size + j < k → ((b[j]'h).toNat : Int) < 128)
theorem asc_all (s : ByteArray) (h : ∀ j (h : j < s.size), ((s[j]'h).toNat : Int) < 128) : Asc s.data.toList := fun c hc => by
  obtain ⟨j, hj, rfl⟩ := List.getElem_of_mem hc
  exact h j (by rw [← size_list]; exact hj)
def LawPost (w : World) (e : Ending) (w' : World) : Prop := e = .returned (.bool true) ∧ Below w.heap.size w w'
set_option maxRecDepth 100000 in
set_option maxHeartbeats 4000000 in
theorem law_walk (a b : ByteArray) (w : World) (h1 : a.size ≤ 2147483647) (h2 : b.size ≤ 2147483647) :
    Calls Tryd.prog 4 #[.string a, .string b] w (LawPost w) := by
  have hg := fit2 a b w h1 h2
  have hwb : Below w.heap.size w (w.alloc (Obj.cells #[.string a, .string b] 9)) := (Below.refl _ _).alloc (Nat.le_refl _) _
  generalize (okFit a && okFit b) = g at hg
  have hcn : Hid (∀ W, Asc a.data.toList → Asc b.data.toList → Calls Tryd.prog 13 #[.string a, .string b] W (CnPost (cmpL a.data.toList b.data.toList) W)) := fun W ha hb => compareNames a b W h1 h2 ha hb
  have hless := cmpL_less a.data.toList b.data.toList
  generalize cmpL a.data.toList b.data.toList = C at hcn hless
  rw [← ByteArray.toList_eq, ← ByteArray.toList_eq] at hless
  obtain ⟨p, hp⟩ : ∃ p, p = Op.bytesLess a.toList b.toList := ⟨_, rfl⟩
  obtain ⟨q, hq⟩ : ∃ q, q = (a.toList == b.toList) := ⟨_, rfl⟩
  rw [← hp, ← hq] at hless
  have HLS := Lib.hid hless
  have HP := Lib.hid hp
  have HQ := Lib.hid hq
  have HWB := Lib.hid hwb
  clear hless hp hq hwb
  cases g
  · go_enter Tryd.func4, Tryd.ntmps4
    go_wp2_with fail
    refine hg.mono ?_
    rintro e w' ⟨rfl, rfl⟩
    clear hg
    go_wp2
    go_ret
    exact ⟨rfl, HWB.out⟩
  · go_enter Tryd.func4, Tryd.ntmps4
    go_wp2_with fail
    refine hg.mono ?_
    rintro e w' ⟨rfl, rfl⟩
    clear hg
    go_wp2
    go_loop [25] (fun i => ∃ k : Nat, k ≤ a.size + b.size ∧ i = .int .i64 k ∧ Hid (AscTo a b k)) (fun i => a.size + b.size - (intOf i).toNat)
    case atStart => exact ⟨0, Nat.zero_le _, rfl, ⟨fun j _ hj => absurd hj (Nat.not_lt_zero _), fun j _ hj => absurd hj (Nat.not_lt_zero _)⟩⟩
    case round =>
      obtain ⟨k, hk, rfl, hA⟩ := hrel
      by_cases hkn : k < a.size + b.size
      · by_cases hka : k < a.size
        · have hka' : (k : Int) < (a.size : Int) := by omega
          have hkb' : ¬ (a.size : Int) ≤ (k : Int) := by omega
          by_cases hc : (128 : Int) ≤ ((a[k]'hka).toNat : Int)
          · go_wp2
            go_ret
            exact ⟨rfl, HWB.out⟩
          · have hN : Hid (AscTo a b (k + 1)) := ⟨fun j h hj => by
              by_cases e : j = k
              · subst e; omega
              · exact hA.out.1 j h (by omega), fun j h hj => by omega⟩
            clear hA
            go_wp2
            go_round
            case rel => exact ⟨k + 1, by omega, by go_num, hN⟩
            case measure => simp [intOf]; omega
        · have hka' : ¬ (k : Int) < (a.size : Int) := by omega
          have hkb' : (a.size : Int) ≤ (k : Int) := by omega
          have hkb : k - a.size < b.size := by omega
          have i1 : (k : Int) - (a.size : Int) = ((k - a.size : Nat) : Int) := by omega
          obtain ⟨m, hm⟩ : ∃ m, m = k - a.size := ⟨_, rfl⟩
          have hmb : m < b.size := by omega
          rw [← hm] at i1
          by_cases hc : (128 : Int) ≤ ((b[m]'hmb).toNat : Int)
          · clear hm hkb
            go_wp2
            go_ret
            exact ⟨rfl, HWB.out⟩
          · have hN : Hid (AscTo a b (k + 1)) := ⟨fun j h hj => hA.out.1 j h (by omega), fun j h hj => by
              by_cases e : j = m
              · subst e; omega
              · exact hA.out.2 j h (by omega)⟩
            have hk1 : k + 1 ≤ a.size + b.size := by omega
            clear hA hm hkb
            go_wp2
            go_round
            case rel => exact ⟨k + 1, hk1, by go_num, hN⟩
            case measure => simp [intOf]; omega
      · have hke : k = a.size + b.size := by omega
        have hasc : Asc a.data.toList ∧ Asc b.data.toList := ⟨asc_all a fun j h => hA.out.1 j h (by omega), asc_all b fun j h => hA.out.2 j h (by omega)⟩
        have hn2 := fun W => hcn.out W hasc.1 hasc.2
        have HN2 := Lib.hid hn2
        obtain ⟨d1, d2⟩ := HLS.out
        have D1 := Lib.hid d1
        have D2 := Lib.hid d2
        clear hasc hn2 hA d1 d2 HLS hcn
        subst hke
        clear hk hkn
        go_wp2_with fail
        refine (HN2.out _).mono ?_
        rintro e w2 ⟨rfl, hb2⟩
        have HB2 := Lib.hid (HWB.out.trans (hb2.mono HWB.out.size))
        clear hb2 HWB
        have e1 := HP.out.symm
        have e2 := HQ.out.symm
        have e3 := D1.out
        have e4 := D2.out
        cases p
        · cases q
          · go_wp2
            go_ret
            exact ⟨rfl, HB2.out⟩
          · go_wp2
            go_ret
            exact ⟨rfl, HB2.out⟩
        · cases q
          · go_wp2
            go_ret
            exact ⟨rfl, HB2.out⟩
          · go_wp2
            go_ret
            exact ⟨rfl, HB2.out⟩
theorem fnCompareAscii_any (a b : ByteArray) (w : World) (_ : a.size ≤ maxLen) (_ : b.size ≤ maxLen) (_ : Lib.Utf8Tabs 3 4 w) :
    Calls Tryd.prog 4 #[.string a, .string b] w fun e w' => e = .returned (.bool true) ∧ Below w.heap.size w w' := by
  by_cases h : a.size ≤ 2147483647
  · by_cases h2 : b.size ≤ 2147483647
    · exact law_walk a b w h h2
    · have h' : 2147483647 < b.size := by omega
      clear h2
      go_enter Tryd.func4, Tryd.ntmps4
      go_wp2
      go_ret
      exact ⟨rfl, Below.refl _ _⟩
  · have h' : 2147483647 < a.size := by omega
    clear h
    go_enter Tryd.func4, Tryd.ntmps4
    go_wp2
    go_ret
    exact ⟨rfl, Below.refl _ _⟩
end Go.Proofs.YtldcoaigecnpfaaDoor
