/- The statement FnPointerContains, walked: it returns true, and leaves all that lay below as it was. -/
import Derived.Test.YtbnnccadnnfomaaPtrMany
import Derived.Test.YtbnnccadnnfomaaContains
import Derived.Test.YtbnnccadnnfomaaTokens
namespace Go.Proofs.Ytbnnccadnnfomaa
open Go.RowKit
set_option maxHeartbeats 1000000 in
theorem isBeginning (g1 c1 g2 c2 : Nat) (A B : List (List UInt8)) (w : World) (hA : A.length ≤ 4294967296) (_hB : B.length ≤ 4294967296) (hb : B.length ≤ c2) (hcA : TextsAt w g1 A) (hcB : TextsAt w g2 B) :
    Calls Try.prog 13 #[.slice (some ⟨g1, 0, none⟩) A.length c1, .slice (some ⟨g2, 0, none⟩) B.length c2] w fun e w' => e = .returned (.bool (decide (A.length ≤ B.length) && A == B.take A.length)) ∧ w = w' := by
  by_cases hl : A.length ≤ B.length
  · have ht : (B.take A.length).length = A.length := by simp; omega
    have hc := sameTexts g1 c1 g2 c2 A (B.take A.length) w hA (by omega) hcA (fun j hj => by
      rw [ht] at hj
      rw [hcB j (by omega), encs_get B j (by omega), encs_get _ j (by omega)]
      simp)
    rw [ht] at hc
    have hd : decide (A.length ≤ B.length) = true := by simpa using hl
    rw [hd, Bool.true_and]
    generalize (A == B.take A.length) = r at hc ⊢
    clear hd ht hcA hcB
    generalize A.length = n at hl hA hc ⊢
    generalize B.length = m at hl _hB hb ⊢
    go_enter Try.func13, Try.ntmps13
    go_wp2_with fail
    refine hc.mono ?_
    rintro e w' ⟨rfl, rfl⟩
    clear hc
    go_wp2
    go_ret
    exact ⟨rfl, rfl⟩
  · have hd : decide (A.length ≤ B.length) = false := by simpa using hl
    rw [hd, Bool.false_and]
    clear hd hcA hcB
    generalize A.length = n at hl hA ⊢
    generalize B.length = m at hl _hB hb ⊢
    go_enter Try.func13, Try.ntmps13
    go_wp2
    go_ret
    exact ⟨rfl, rfl⟩
theorem guard2 (p q : ByteArray) (w : World) (hp : p.size ≤ 2147483647) (hq : q.size ≤ 2147483647) :
    Calls Try.prog 11 #[.slice (some ⟨w.heap.size, 0, none⟩) 2 2] (w.alloc (Obj.cells #[.string p, .string q] 9)) fun e w' => e = .returned (.bool ([p, q].all okPtr)) ∧ w.alloc (Obj.cells #[.string p, .string q] 9) = w' :=
  pointers10 w.heap.size [p, q] 2 _ (by simp) (fun s hs => by simp at hs; rcases hs with rfl | rfl <;> assumption) (fun j h => by
    match j, h with
    | 0, _ => simp
    | 1, _ => simp)
/-- The plain law, as the two Bools. -/
theorem begins_eq (p q : List UInt8) (hp : pv p = true) (hq : pv q = true) : (decide ((tk p []).length ≤ (tk q []).length) && tk p [] == (tk q []).take (tk p []).length) = contB p q := by
  rw [Bool.eq_iff_iff, contB_iff, cont_iff p q hp hq, Bool.and_eq_true, decide_eq_true_iff, beq_iff_eq]
  constructor
  · rintro ⟨_, h⟩
    refine ⟨(tk q []).drop (tk p []).length, ?_⟩
    have := List.take_append_drop (tk p []).length (tk q [])
    rw [← h] at this
    exact this.symm
  · rintro ⟨ts, h⟩
    rw [h]
    exact ⟨by simp, by simp⟩
theorem texts_of {w : World} {base : Nat} {g cap : Nat} {A : List (List UInt8)} (h : w.ownsRow base 9 1 (.slice (some ⟨g, 0, none⟩) A.length cap) A.length (encs A)) : TextsAt w g A := fun j hj => h.cellAt j (by omega)
theorem tk_len : ∀ (n : Nat) (l : List UInt8) (out : List (List UInt8)), l.length ≤ n → (tk l out).length ≤ out.length + l.length + 1
  | _, [], out, _ => by rw [tk_nil]; simp
  | 0, c :: r, _, hn => by simp at hn
  | n + 1, c :: r, out, hn => by
    simp only [List.length_cons] at hn ⊢
    by_cases h47 : c = 47
    · subst h47
      rw [tk_slash]
      have := tk_len n r (out ++ [[]]) (by omega)
      simp at this ⊢; omega
    · have ha : ∀ t, (addLast out t).length ≤ out.length + 1 := fun t => by unfold addLast; simp <;> omega
      by_cases h126 : c = 126
      · subst h126
        cases r with
        | nil => have := ha []; simp [tk]; omega
        | cons d r' =>
          rw [tk_tilde]
          simp only [List.length_cons] at hn ⊢
          have := tk_len n r' (addLast out [if d = 48 then 126 else 47]) (by omega)
          have := ha [if d = 48 then 126 else 47]
          omega
      · rw [tk_plain c r out h47 h126]
        have := tk_len n r (addLast out [c]) (by omega)
        have := ha [c]
        omega
set_option maxRecDepth 100000 in
set_option maxHeartbeats 2000000 in
theorem contains_walk (p q : ByteArray) (w : World) (hp : p.size ≤ 2147483647) (hq : q.size ≤ 2147483647) :
    Calls Try.prog 4 #[.string p, .string q] w fun e w' => e = .returned (.bool true) ∧ Below w.heap.size w w' := by
  have hg := guard2 p q w hp hq
  cases hall : [p, q].all okPtr
  · rw [hall] at hg
    clear hall
    go_enter Try.func4, Try.ntmps4
    go_wp2_with fail
    refine hg.mono ?_
    rintro e w' ⟨rfl, rfl⟩
    clear hg
    go_wp2
    go_ret
    exact ⟨rfl, (Below.refl _ _).alloc (Nat.le_refl _) _⟩
  · rw [hall] at hg
    simp only [List.all_cons, List.all_nil, Bool.and_true, Bool.and_eq_true, okPtr] at hall
    obtain ⟨⟨_, vp⟩, _, vq⟩ := hall
    have hbe := begins_eq p.data.toList q.data.toList vp vq
    have lp := tk_len _ p.data.toList [] (Nat.le_refl _)
    have lq := tk_len _ q.data.toList [] (Nat.le_refl _)
    rw [size_list] at lp lq
    simp only [List.length_nil] at lp lq
    have VP := Lib.hid vp
    have VQ := Lib.hid vq
    clear vp vq
    go_enter Try.func4, Try.ntmps4
    go_wp2_with fail
    refine hg.mono ?_
    rintro e w' ⟨rfl, rfl⟩
    clear hg
    go_wp2_with fail
    have hc := ptrContains p q (w.alloc (Obj.cells #[.string p, .string q] 9))
    generalize contB p.data.toList q.data.toList = b at hc hbe
    refine hc.mono ?_
    rintro e w' ⟨rfl, rfl⟩
    clear hc
    go_wp2_with fail
    refine (tokens p _ hp VP).mono ?_
    rintro e w1 ⟨v1, rfl, ho1, hb1, hn1⟩
    obtain ⟨g1, c1, rfl, hg1, hg1', hc1, _⟩ := own_shape ho1 hn1
    clear hn1
    go_wp2_with fail
    refine (tokens q _ hq VQ).mono ?_
    rintro e w2 ⟨v2, rfl, ho2, hb2, hn2⟩
    obtain ⟨g2, c2, rfl, hg2, hg2', hc2, _⟩ := own_shape ho2 hn2
    clear hn2
    go_wp2_with fail
    have ta1 := texts_of ho1
    have ta : TextsAt w2 g1 (tk p.data.toList []) := fun j hj => (hb2.cell (p := ⟨g1, j, none⟩) hg1').trans (ta1 j hj)
    have hi := isBeginning g1 c1 g2 c2 _ _ w2 (by omega) (by omega) hc2 ta (texts_of ho2)
    rw [hbe] at hi
    clear ta ta1 ho1 ho2 hbe
    refine hi.mono ?_
    rintro e w' ⟨rfl, rfl⟩
    clear hi
    have hbel : Below w.heap.size w w2 := (((Below.refl _ _).alloc (Nat.le_refl _) _).trans (hb1.mono (by simp))).trans (hb2.mono (by have := hb1.size; simp at this; omega))
    clear hb1 hb2
    cases b
    all_goals
      go_wp2
      go_ret
      exact ⟨rfl, hbel⟩
theorem contains_big (p q : ByteArray) (w : World) (h : 2147483647 < p.size ∨ (p.size ≤ 2147483647 ∧ 2147483647 < q.size)) :
    Calls Try.prog 4 #[.string p, .string q] w fun e w' => e = .returned (.bool true) ∧ Below w.heap.size w w' := by
  rcases h with h | ⟨h, k⟩
  all_goals
    go_enter Try.func4, Try.ntmps4
    go_wp2
    go_ret
    exact ⟨rfl, Below.refl _ _⟩
theorem fnPointerContains_any (p q : ByteArray) (w : World) (_ : p.size ≤ maxLen) (_ : q.size ≤ maxLen) :
    Calls Try.prog 4 #[.string p, .string q] w fun e w' => e = .returned (.bool true) ∧ Below w.heap.size w w' := by
  by_cases h1 : p.size ≤ 2147483647
  · by_cases h2 : q.size ≤ 2147483647
    · exact contains_walk p q w h1 h2
    · exact contains_big p q w (Or.inr ⟨h1, by omega⟩)
  · exact contains_big p q w (Or.inl (by omega))
end Go.Proofs.Ytbnnccadnnfomaa
