/- The statement FnPointerLast, walked: it returns true, and leaves all that lay below as it was. -/
import Derived.Test.YtegfdgmbhnfeeaaPtrLast
namespace Go.Proofs.Ytegfdgmbhnfeeaa
open Go.RowKit
theorem implLast (s : ByteArray) (w : World) (hs : s.size ≤ 2147483647) (hv : pv s.data.toList = true) :
    Calls Try.prog 16 #[.string s] w (ReplPost (lastT s.data.toList) w) := by
  have hc := fun W => lastToken s W hs hv
  generalize lastT s.data.toList = L at hc ⊢
  clear hv
  go_enter Try.func16, Try.ntmps16
  go_wp2_with fail
  refine (hc _).mono ?_
  rintro e w' ⟨rfl, hb⟩
  clear hc
  go_wp2
  go_ret
  exact ⟨rfl, hb⟩
theorem lguard1 (p : ByteArray) (w : World) (hp : p.size ≤ 2147483647) :
    Calls Try.prog 14 #[.slice (some ⟨w.heap.size, 0, none⟩) 1 1] (w.alloc (Obj.cells #[.string p] 9)) fun e w' => e = .returned (.bool ([p].all okPtr)) ∧ w.alloc (Obj.cells #[.string p] 9) = w' :=
  pointers10 w.heap.size [p] 1 _ (by simp) (fun s hs => by simp at hs; subst hs; assumption) (fun j h => by
    match j, h with
    | 0, _ => simp)
/-- The last of the first k texts. -/
def lastOf (ts : List (List UInt8)) (k : Nat) : ByteArray := ⟨(if k = 0 then [] else ts.getD (k - 1) []).toArray⟩
set_option maxHeartbeats 1000000 in
theorem law_walk (s : ByteArray) (w : World) (hs : s.size ≤ 2147483647) :
    Calls Try.prog 5 #[.string s] w fun e w' => e = .returned (.bool true) ∧ Below w.heap.size w w' := by
  have hg := lguard1 s w hs
  cases hok : [s].all okPtr
  · rw [hok] at hg
    clear hok
    go_enter Try.func5, Try.ntmps5
    go_wp2_with fail
    refine hg.mono ?_
    rintro e w' ⟨rfl, rfl⟩
    clear hg
    go_wp2
    go_ret
    exact ⟨rfl, (Below.refl _ _).alloc (Nat.le_refl _) _⟩
  · rw [hok] at hg
    have hv : pv s.data.toList = true := by
      simp [okPtr] at hok
      exact hok.2
    have hl := fun W => implLast s W hs hv
    have htk := fun W => tokens s W hs hv
    have hlast : (⟨(lastT s.data.toList).toArray⟩ : ByteArray) = lastOf (tk s.data.toList []) (tk s.data.toList []).length := by
      unfold lastT lastOf
      generalize tk s.data.toList [] = ts
      cases ts with
      | nil => rfl
      | cons a b =>
        rw [if_neg (by simp), List.getLast?_eq_getElem?, List.getD_eq_getElem?_getD]
    have hmax : (tk s.data.toList []).length ≤ 4294967296 := by
      have hgv := pv_gives s.data.toList hv
      have h1 := ptrOf_tk s.data.toList.length s.data.toList [] (Nat.le_refl _) hgv.1 (Or.inr hgv.2)
      have h2 : (tk s.data.toList []).length ≤ (ptrOf (tk s.data.toList [])).length := by
        generalize tk s.data.toList [] = ts
        induction ts with
        | nil => simp
        | cons a b ih =>
          have e : ptrOf (a :: b) = (47 :: esc a) ++ ptrOf b := by simp [ptrOf]
          rw [e, List.length_append]; simp only [List.length_cons]; omega
      rw [h1] at h2
      have e2 : ptrOf [] ++ s.data.toList = s.data.toList := rfl
      rw [e2, size_list] at h2
      omega
    generalize tk s.data.toList [] = ts at htk hlast hmax
    generalize lastT s.data.toList = L at hl hlast
    have HT := Lib.hid htk
    have HLAST := Lib.hid hlast
    have HL := Lib.hid hl
    clear htk hlast hl hv hok
    go_enter Try.func5, Try.ntmps5
    go_wp2_with fail
    refine hg.mono ?_
    rintro e w' ⟨rfl, rfl⟩
    clear hg
    go_wp2_with fail
    refine (HT.out _).mono ?_
    rintro e w1 ⟨v, rfl, hown, hb, hnil⟩
    obtain ⟨g, cap, rfl, hg', hg2, hc1, hc2⟩ := own_shape hown hnil
    have hcell : Hid (∀ j, (h : j < ts.length) → w1.cell? ⟨g, j, none⟩ = some (.string ⟨(ts[j]'h).toArray⟩)) := fun j h => by
      have := hown.cells (g := g) rfl j _ (encs_get ts j h)
      have hadd : (⟨g, 0, none⟩ : Addr).add j = ⟨g, j, none⟩ := by unfold Addr.add; split <;> simp_all
      rwa [hadd] at this
    have hbel : Below w.heap.size w w1 := ((Below.refl _ _).alloc (Nat.le_refl _) _).trans (hb.mono (by simp))
    clear hown hb hnil
    obtain ⟨n, hn⟩ : ∃ n, n = ts.length := ⟨_, rfl⟩
    rw [← hn] at hmax hc1 ⊢
    have HN := Lib.hid hn
    clear hn
    go_wp2
    go_loop [3, 16] (fun t i => ∃ k : Nat, k ≤ n ∧ i = .int .i64 k ∧ t = .string (lastOf ts k)) (fun _ i => n - (intOf i).toNat)
    case atStart => exact ⟨0, Nat.zero_le _, rfl, rfl⟩
    case round =>
      obtain ⟨k, hk, rfl, rfl⟩ := hrel
      by_cases hkn : k < n
      · have hkt : k < ts.length := by rw [← HN.out]; exact hkn
        have hck := hcell.out k hkt
        have hnext : (⟨(ts[k]'hkt).toArray⟩ : ByteArray) = lastOf ts (k + 1) := by
          unfold lastOf
          rw [if_neg (by omega), Nat.add_sub_cancel, List.getD_eq_getElem?_getD, List.getElem?_eq_getElem hkt]; rfl
        rw [hnext] at hck
        clear hnext
        generalize lastOf ts k = t0
        have ht1 : Value.string (lastOf ts (k + 1)) = .string (lastOf ts (k + 1)) := rfl
        go_wp2
        go_round
        case rel => exact ⟨k + 1, by omega, by go_num, rfl⟩
        case measure => simp [intOf]; omega
      · have hkn' : k = n := by omega
        subst hkn'
        have hend : lastOf ts k = ⟨L.toArray⟩ := by rw [HLAST.out, HN.out]
        rw [hend]
        go_wp2_with fail
        refine (HL.out _).mono ?_
        rintro e w2 ⟨rfl, hb2⟩
        go_wp2
        go_ret
        exact ⟨rfl, hbel.trans (hb2.mono hbel.size)⟩
theorem fnPointerLast_any (s : ByteArray) (w : World) (_ : s.size ≤ maxLen) :
    Calls Try.prog 5 #[.string s] w fun e w' => e = .returned (.bool true) ∧ Below w.heap.size w w' := by
  by_cases h : s.size ≤ 2147483647
  · exact law_walk s w h
  · have h' : 2147483647 < s.size := by omega
    go_enter Try.func5, Try.ntmps5
    go_wp2
    go_ret
    exact ⟨rfl, Below.refl _ _⟩
end Go.Proofs.Ytegfdgmbhnfeeaa
