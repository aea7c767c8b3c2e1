/- The statement FnPointerOrder, walked: it returns true, and leaves all that lay below as it was. -/
import Derived.Test.YtbnnccadnnfomaaPtrMany
import Derived.Test.YtbnnccadnnfomaaContains
namespace Go.Proofs.Ytbnnccadnnfomaa
open Go.RowKit
theorem cont_same {p q : ByteArray} (h : contB p.data.toList q.data.toList = true) (k : contB q.data.toList p.data.toList = true) : p = q := by
  have := cont_antisymm ((contB_iff _ _).1 h) ((contB_iff _ _).1 k)
  apply ByteArray.ext
  exact Array.ext' this
/-- The guard on pointers: the texts in a new slice. -/
theorem guard3 (p q r : ByteArray) (w : World) (hp : p.size ≤ 2147483647) (hq : q.size ≤ 2147483647) (hr : r.size ≤ 2147483647) :
    Calls Try.prog 11 #[.slice (some ⟨w.heap.size, 0, none⟩) 3 3] (w.alloc (Obj.cells #[.string p, .string q, .string r] 9)) fun e w' => e = .returned (.bool ([p, q, r].all okPtr)) ∧ w.alloc (Obj.cells #[.string p, .string q, .string r] 9) = w' :=
  pointers10 w.heap.size [p, q, r] 3 _ (by simp) (fun s hs => by simp at hs; rcases hs with rfl | rfl | rfl <;> assumption) (fun j h => by
    match j, h with
    | 0, _ => simp
    | 1, _ => simp
    | 2, _ => simp)
set_option maxRecDepth 100000 in
set_option maxHeartbeats 2000000 in
theorem order_walk (p q r : ByteArray) (w : World) (hp : p.size ≤ 2147483647) (hq : q.size ≤ 2147483647) (hr : r.size ≤ 2147483647) :
    Calls Try.prog 5 #[.string p, .string q, .string r] w fun e w' => e = .returned (.bool true) ∧ Below w.heap.size w w' := by
  have hg := guard3 p q r w hp hq hr
  generalize [p, q, r].all okPtr = g at hg
  cases g
  · go_enter Try.func5, Try.ntmps5
    go_wp2_with fail
    refine hg.mono ?_
    rintro e w' ⟨rfl, rfl⟩
    clear hg
    go_wp2
    go_ret
    exact ⟨rfl, (Below.refl _ _).alloc (Nat.le_refl _) _⟩
  · have c1 := fun W => ptrContains p q W
    have c2 := fun W => ptrContains q r W
    have c3 := fun W => ptrContains p r W
    have c4 := fun W => ptrContains p p W
    have c5 := fun W => ptrContains q p W
    have h4 : contB p.data.toList p.data.toList = true := (contB_iff _ _).2 (cont_refl _)
    have h3 : contB p.data.toList q.data.toList = true → contB q.data.toList r.data.toList = true → contB p.data.toList r.data.toList = true := fun a b => (contB_iff _ _).2 (cont_trans ((contB_iff _ _).1 a) ((contB_iff _ _).1 b))
    have h5 : contB p.data.toList q.data.toList = true → contB q.data.toList p.data.toList = true → p = q := cont_same
    rw [h4] at c4
    clear h4
    generalize contB p.data.toList q.data.toList = b1 at c1 h3 h5
    generalize contB q.data.toList r.data.toList = b2 at c2 h3
    generalize contB p.data.toList r.data.toList = b3 at c3 h3
    generalize contB q.data.toList p.data.toList = b5 at c5 h5
    have K3 := Lib.hid h3
    have K5 := Lib.hid h5
    have C1 := Lib.hid c1
    have C2 := Lib.hid c2
    have C3 := Lib.hid c3
    have C4 := Lib.hid c4
    have C5 := Lib.hid c5
    clear h3 h5 c1 c2 c3 c4 c5
    have heq : b1 = true → b5 = true → (p.toList == q.toList) = true := fun a b => by rw [K5.out a b]; simp
    have HEQ := Lib.hid heq
    clear heq
    cases b1
    · go_enter Try.func5, Try.ntmps5
      go_wp2_with fail
      refine hg.mono ?_
      rintro e w' ⟨rfl, rfl⟩
      clear hg
      go_wp2_with fail
      refine (C1.out _).mono ?_
      rintro e w' ⟨rfl, rfl⟩
      go_wp2_with fail
      refine (C2.out _).mono ?_
      rintro e w' ⟨rfl, rfl⟩
      go_wp2_with fail
      refine (C3.out _).mono ?_
      rintro e w' ⟨rfl, rfl⟩
      go_wp2_with fail
      refine (C4.out _).mono ?_
      rintro e w' ⟨rfl, rfl⟩
      go_wp2
      go_ret
      exact ⟨rfl, (Below.refl _ _).alloc (Nat.le_refl _) _⟩
    · have hb : (b2 = false ∧ b3 = false) ∨ (b2 = false ∧ b3 = true) ∨ (b2 = true ∧ b3 = true) := by
        cases b2
        · cases b3
          · exact Or.inl ⟨rfl, rfl⟩
          · exact Or.inr (Or.inl ⟨rfl, rfl⟩)
        · exact Or.inr (Or.inr ⟨rfl, K3.out rfl rfl⟩)
      cases b5
      · rcases hb with ⟨rfl, rfl⟩ | ⟨rfl, rfl⟩ | ⟨rfl, rfl⟩
        all_goals
          go_enter Try.func5, Try.ntmps5
          go_wp2_with fail
          refine hg.mono ?_
          rintro e w' ⟨rfl, rfl⟩
          clear hg
          go_wp2_with fail
          refine (C1.out _).mono ?_
          rintro e w' ⟨rfl, rfl⟩
          go_wp2_with fail
          refine (C2.out _).mono ?_
          rintro e w' ⟨rfl, rfl⟩
          go_wp2_with fail
          refine (C3.out _).mono ?_
          rintro e w' ⟨rfl, rfl⟩
          go_wp2_with fail
          refine (C4.out _).mono ?_
          rintro e w' ⟨rfl, rfl⟩
          go_wp2_with fail
          refine (C5.out _).mono ?_
          rintro e w' ⟨rfl, rfl⟩
          go_wp2
          all_goals go_ret
          all_goals exact ⟨rfl, (Below.refl _ _).alloc (Nat.le_refl _) _⟩
      · have e1 : (p.toList == q.toList) = true := HEQ.out rfl rfl
        rcases hb with ⟨rfl, rfl⟩ | ⟨rfl, rfl⟩ | ⟨rfl, rfl⟩
        all_goals
          go_enter Try.func5, Try.ntmps5
          go_wp2_with fail
          refine hg.mono ?_
          rintro e w' ⟨rfl, rfl⟩
          clear hg
          go_wp2_with fail
          refine (C1.out _).mono ?_
          rintro e w' ⟨rfl, rfl⟩
          go_wp2_with fail
          refine (C2.out _).mono ?_
          rintro e w' ⟨rfl, rfl⟩
          go_wp2_with fail
          refine (C3.out _).mono ?_
          rintro e w' ⟨rfl, rfl⟩
          go_wp2_with fail
          refine (C4.out _).mono ?_
          rintro e w' ⟨rfl, rfl⟩
          go_wp2_with fail
          refine (C5.out _).mono ?_
          rintro e w' ⟨rfl, rfl⟩
          go_wp2
          all_goals go_ret
          all_goals exact ⟨rfl, (Below.refl _ _).alloc (Nat.le_refl _) _⟩
set_option maxRecDepth 100000 in
theorem order_big (p q r : ByteArray) (w : World) (h : 2147483647 < p.size ∨ (p.size ≤ 2147483647 ∧ 2147483647 < q.size) ∨ (p.size ≤ 2147483647 ∧ q.size ≤ 2147483647 ∧ 2147483647 < r.size)) :
    Calls Try.prog 5 #[.string p, .string q, .string r] w fun e w' => e = .returned (.bool true) ∧ Below w.heap.size w w' := by
  rcases h with h | ⟨h, k⟩ | ⟨h, k, j⟩
  all_goals
    go_enter Try.func5, Try.ntmps5
    go_wp2
    go_ret
    exact ⟨rfl, Below.refl _ _⟩
theorem fnPointerOrder_any (p q r : ByteArray) (w : World) (_ : p.size ≤ maxLen) (_ : q.size ≤ maxLen) (_ : r.size ≤ maxLen) :
    Calls Try.prog 5 #[.string p, .string q, .string r] w fun e w' => e = .returned (.bool true) ∧ Below w.heap.size w w' := by
  by_cases h1 : p.size ≤ 2147483647
  · by_cases h2 : q.size ≤ 2147483647
    · by_cases h3 : r.size ≤ 2147483647
      · exact order_walk p q r w h1 h2 h3
      · exact order_big p q r w (Or.inr (Or.inr ⟨h1, h2, by omega⟩))
    · exact order_big p q r w (Or.inr (Or.inl ⟨h1, by omega⟩))
  · exact order_big p q r w (Or.inl (by omega))
end Go.Proofs.Ytbnnccadnnfomaa
