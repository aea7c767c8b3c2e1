/- The statement FnOldEscape, walked: it returns true, and leaves all that lay below as it was. -/
import Derived.Test.YtklncgmfbflooaaDoorOldEsc
import Derived.Test.YtklncgmfbflooaaDoorKept
import Derived.Test.YtklncgmfbflooaaDoorTaken
import Derived.Test.YtklncgmfbflooaaDoorFits
import Derived.Test.YtklncgmfbflooaaDoorClose
namespace Go.Proofs.YtklncgmfbflooaaDoor
open Go.RowKit
theorem put_behind (dst : ByteArray) (Q : List UInt8) (want : ByteArray) (h : want = ⟨Q.toArray⟩) : (⟨(dst.data.toList ++ Q).toArray⟩ : ByteArray) = dst ++ want := by
  subst h
  apply ByteArray.ext
  apply Array.toList_inj.1
  simp
theorem taken_pos (l : List UInt8) (h : takenB l = true) : 1 ≤ l.length := by
  match l with
  | [] => exact absurd h (by decide)
  | _ :: _ => simp
set_option maxRecDepth 100000 in
set_option maxHeartbeats 2000000 in
theorem law_walk (dst text : ByteArray) (w : World) (h1 : dst.size ≤ 2147483647) (h2 : text.size ≤ 2147483647) :
    Calls Tryd.prog 3 #[.string dst, .string text] w fun e w' => e = .returned (.bool true) ∧ Below w.heap.size w w' := by
  have HG := Lib.hid (fun W => fit2 dst text W h1 h2)
  have HO := Lib.hid (fun W : World => oldRules W)
  have HT : Hid (∀ W : World, Calls Tryd.prog 8 #[.string text, .agg #[.bool true, .bool true]] W fun e w' => e = .returned (.tuple #[.bool (takenB text.data.toList), .bool true]) ∧ Below W.heap.size W w') := Lib.hid fun W => takenS text W h2
  obtain ⟨want, hw⟩ : ∃ x : ByteArray, x = ⟨(escF 0 text.data.toList).toArray⟩ := ⟨_, rfl⟩
  have hpb := put_behind dst (escF 0 text.data.toList) want hw
  have hws : want.size = (escF 0 text.data.toList).length := by rw [hw]; simp [ByteArray.size]
  have hlen := escF_length text.data.toList 0
  rw [← hws, size_list] at hlen
  have HK : Hid (okFit text = true → ∀ W, Calls Tryd.prog 12 #[.string text, .agg #[.bool true, .bool true]] W (fun e w' => e = .returned (.string want) ∧ Below W.heap.size W w')) := fun h W => by
    have := keptS text W (by unfold okFit at h; simp at h; omega)
    rw [kept_escF _ _ (Nat.le_refl _)] at this
    rw [hw]; exact this
  have HE : Hid (okFit dst = true → okFit text = true → takenB text.data.toList = true → ∀ W, Calls Tryd.prog 11 #[.string dst, .string text] W (fun e w' => e = .returned (.string (dst ++ want)) ∧ Below W.heap.size W w')) := fun ha hb ht W => by
    have hp := taken_pos _ ht
    rw [size_list] at hp
    have := oldEscape dst text W (by unfold okFit at ha; simp at ha; omega) (by unfold okFit at hb; simp at hb; omega) hp
    unfold SafePost at this
    rw [hpb] at this
    exact this
  have hadd : ∀ W, (Op.stringOp .add dst want).run Tryd.prog W = .ok (.string (dst ++ want)) W := fun W => run_string_add_sum W _ _ (by omega)
  have hself : ((dst ++ want).toList == (dst ++ want).toList) = true := beq_self_eq_true _
  have hd1 : ¬ ((2147483647 : Int) < (dst.size : Int)) := by omega
  have hd2 : ¬ ((2147483647 : Int) < (text.size : Int)) := by omega
  clear hpb hws hlen hw
  generalize takenB text.data.toList = t at HT HE
  generalize okFit dst = g1 at HG HE
  generalize okFit text = g2 at HG HE HK
  obtain ⟨g, hg⟩ : ∃ g, g = (g1 && g2) := ⟨_, rfl⟩
  rw [← hg] at HG
  cases g
  · clear HE HK hg
    go_enter Tryd.func3, Tryd.ntmps3
    go_wp2_with fail
    refine (HO.out _).mono ?_
    rintro e w1 ⟨rfl, hb1⟩
    have HB1 := Lib.hid hb1
    clear hb1
    go_wp2_with fail
    refine (HT.out _).mono ?_
    rintro e w2 ⟨rfl, hb2⟩
    have HB2 := Lib.hid (HB1.out.trans (hb2.mono HB1.out.size))
    clear hb2
    go_wp2_with fail
    refine (HG.out _).mono ?_
    rintro e w3 ⟨rfl, rfl⟩
    go_wp2
    go_ret
    exact ⟨rfl, HB2.out.alloc HB2.out.size _⟩
  · have hgg : g1 = true ∧ g2 = true := by simpa using hg.symm
    have HK2 := Lib.hid (HK.out hgg.2)
    have HE2 := Lib.hid (HE.out hgg.1 hgg.2)
    clear HE HK hg hgg
    cases t
    · go_enter Tryd.func3, Tryd.ntmps3
      go_wp2_with fail
      refine (HO.out _).mono ?_
      rintro e w1 ⟨rfl, hb1⟩
      have HB1 := Lib.hid hb1
      clear hb1
      go_wp2_with fail
      refine (HT.out _).mono ?_
      rintro e w2 ⟨rfl, hb2⟩
      have HB2 := Lib.hid (HB1.out.trans (hb2.mono HB1.out.size))
      clear hb2
      go_wp2_with fail
      refine (HG.out _).mono ?_
      rintro e w3 ⟨rfl, rfl⟩
      go_wp2
      go_ret
      exact ⟨rfl, HB2.out.alloc HB2.out.size _⟩
    · have HE3 := Lib.hid (HE2.out rfl)
      clear HE2
      go_enter Tryd.func3, Tryd.ntmps3
      go_wp2_with fail
      refine (HO.out _).mono ?_
      rintro e w1 ⟨rfl, hb1⟩
      have HB1 := Lib.hid hb1
      clear hb1
      go_wp2_with fail
      refine (HT.out _).mono ?_
      rintro e w2 ⟨rfl, hb2⟩
      have HB2 := Lib.hid (HB1.out.trans (hb2.mono HB1.out.size))
      clear hb2
      go_wp2_with fail
      refine (HG.out _).mono ?_
      rintro e w3 ⟨rfl, rfl⟩
      have HB3 := Lib.hid (HB2.out.alloc HB2.out.size (Obj.cells #[.string dst, .string text] 9))
      go_wp2_with fail
      refine (HE3.out _).mono ?_
      rintro e w4 ⟨rfl, hb4⟩
      have HB4 := Lib.hid (HB3.out.trans (hb4.mono HB3.out.size))
      clear hb4
      go_wp2_with fail
      refine (HK2.out _).mono ?_
      rintro e w5 ⟨rfl, hb5⟩
      have HB5 := Lib.hid (HB4.out.trans (hb5.mono HB4.out.size))
      clear hb5
      go_wp2
      go_ret
      exact ⟨rfl, HB5.out⟩
theorem fnOldEscape_any (dst text : ByteArray) (w : World) (_ : dst.size ≤ maxLen) (_ : text.size ≤ maxLen) :
    Calls Tryd.prog 3 #[.string dst, .string text] w fun e w' => e = .returned (.bool true) ∧ Below w.heap.size w w' := by
  by_cases h1 : dst.size ≤ 2147483647
  · by_cases h2 : text.size ≤ 2147483647
    · exact law_walk dst text w h1 h2
    · have h' : 2147483647 < text.size := by omega
      go_enter Tryd.func3, Tryd.ntmps3
      go_wp2
      go_ret
      exact ⟨rfl, Below.refl _ _⟩
  · have h' : 2147483647 < dst.size := by omega
    go_enter Tryd.func3, Tryd.ntmps3
    go_wp2
    go_ret
    exact ⟨rfl, Below.refl _ _⟩
end Go.Proofs.YtklncgmfbflooaaDoor
