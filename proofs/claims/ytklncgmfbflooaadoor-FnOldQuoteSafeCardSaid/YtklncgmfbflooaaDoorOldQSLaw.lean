/- The statement FnOldQuoteSafe, walked: it returns true, and leaves all that lay below as it was. -/
import Derived.Test.YtklncgmfbflooaaDoorOldQuote
import Derived.Test.YtklncgmfbflooaaDoorSafe8
import Derived.Test.YtklncgmfbflooaaDoorFits
import Derived.Test.YtklncgmfbflooaaDoorClose
namespace Go.Proofs.YtklncgmfbflooaaDoor
open Go.RowKit
theorem drewN_below (w : World) (k : Nat) : Below w.heap.size w (w.drewN k) := by
  cases k with
  | zero => exact Below.refl _ _
  | succ k => exact ⟨rfl, rfl, rfl, Nat.le_refl _, fun _ _ => rfl⟩
set_option maxRecDepth 100000 in
set_option maxHeartbeats 1000000 in
theorem law_walk (s : ByteArray) (w : World) (hs : s.size ≤ 2147483647) (hT : OTabs w) :
    Calls Tryd.prog 4 #[.string s] w fun e w' => e = .returned (.bool true) ∧ Below w.heap.size w w' := by
  have HG : Hid (∀ W : World, Calls Tryd.prog 10 #[.slice (some ⟨W.heap.size, 0, none⟩) 1 1] (W.alloc (Obj.cells #[.string s] 9)) fun e w' => e = .returned (.bool (okFit s)) ∧ W.alloc (Obj.cells #[.string s] 9) = w') := Lib.hid fun W => fit1 s W hs
  obtain ⟨T, hTt⟩ : ∃ T : ByteArray, T = ⟨(oquote s.data.toList).toArray⟩ := ⟨_, rfl⟩
  have hTl : T.data.toList = oquote s.data.toList := by rw [hTt]
  have hlen := oquote_length s.data.toList
  rw [← hTl, size_list, size_list] at hlen
  have hsafe : safeL T.data.toList = true := by rw [hTl]; exact oquote_safe _
  have h5 := hT.size
  have HQ : Hid (okFit s = true → ∀ W : World, Below w.heap.size w W → Calls Tryd.prog 13 #[.string ⟨#[]⟩, .string s, .bool true] W fun e w' => e = .returned (.string T) ∧ Below W.heap.size W w') := fun h W hW => by
    have := oldQuote s W (by unfold okFit at h; simpa using h) (hT.below hW h5)
    rw [hTt]; exact this
  have HS8 : Hid (∀ W : World, Calls Tryd.prog 14 #[.string T] W fun e w' => e = .returned (.bool true) ∧ ∃ k, w' = W.drewN k) := fun W => safe8 T (by omega) hsafe W
  have HSF : Hid (okFit s = true → ∀ W : World, Calls Tryd.prog 15 #[.string ⟨#[]⟩, .string T] W fun e w' => e = .returned (.string T) ∧ Below W.heap.size W w') := fun h W => by
    have := oldSafe ByteArray.empty T W (by decide) (by unfold okFit at h; simp at h; omega)
    rw [escF_safe _ hsafe] at this
    exact this
  have h2 : (2 : Int) ≤ (T.size : Int) := by omega
  have h2' : 2 ≤ T.size := hlen.1
  have hself : (T.toList == T.toList) = true := beq_self_eq_true _
  clear hTt hTl hlen hsafe h5 hT
  generalize okFit s = g at HG HQ HSF
  cases g
  · go_enter Tryd.func4, Tryd.ntmps4
    go_wp2_with fail
    refine (HG.out _).mono ?_
    rintro e w3 ⟨rfl, rfl⟩
    go_wp2
    go_ret
    exact ⟨rfl, (Below.refl _ _).alloc (Nat.le_refl _) _⟩
  · have HQ2 := Lib.hid (HQ.out rfl)
    have HSF2 := Lib.hid (HSF.out rfl)
    clear HQ HSF
    go_enter Tryd.func4, Tryd.ntmps4
    go_wp2_with fail
    refine (HG.out _).mono ?_
    rintro e w3 ⟨rfl, rfl⟩
    have HB3 : Hid (Below w.heap.size w (w.alloc (Obj.cells #[.string s] 9))) := (Below.refl _ _).alloc (Nat.le_refl _) _
    go_wp2_with fail
    refine (HQ2.out _ HB3.out).mono ?_
    rintro e w4 ⟨rfl, hb4⟩
    have HB4 := Lib.hid (HB3.out.trans (hb4.mono HB3.out.size))
    clear hb4
    go_wp2_with fail
    refine (HS8.out _).mono ?_
    rintro e w5 ⟨rfl, q, rfl⟩
    have HB5 := Lib.hid (HB4.out.trans ((drewN_below w4 q).mono HB4.out.size))
    go_wp2_with fail
    refine (HSF2.out _).mono ?_
    rintro e w6 ⟨rfl, hb6⟩
    have HB6 := Lib.hid (HB5.out.trans (hb6.mono HB5.out.size))
    clear hb6
    go_wp2
    go_ret
    exact ⟨rfl, HB6.out⟩
theorem fnOldQuoteSafe_any (s : ByteArray) (w : World) (_ : s.size ≤ maxLen) (hT : OTabs w) :
    Calls Tryd.prog 4 #[.string s] w fun e w' => e = .returned (.bool true) ∧ Below w.heap.size w w' := by
  by_cases h : s.size ≤ 2147483647
  · exact law_walk s w h hT
  · have h' : 2147483647 < s.size := by omega
    go_enter Tryd.func4, Tryd.ntmps4
    go_wp2
    go_ret
    exact ⟨rfl, Below.refl _ _⟩
end Go.Proofs.YtklncgmfbflooaaDoor
