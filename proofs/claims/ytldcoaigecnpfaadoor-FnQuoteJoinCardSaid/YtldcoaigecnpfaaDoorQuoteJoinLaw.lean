/- The statement FnQuoteJoin, walked: it returns true, and leaves all that lay below as it was. -/
import Derived.Test.YtldcoaigecnpfaaDoorImplQuote
import Derived.Test.YtldcoaigecnpfaaDoorIsText
import Derived.Test.YtldcoaigecnpfaaDoorFits
import Derived.Test.YtldcoaigecnpfaaDoorClose
import Derived.Lib.Strings
namespace Go.Proofs.YtldcoaigecnpfaaDoor
open Go.RowKit
theorem isTxt_clean (n : Nat) : ∀ l : List UInt8, l.length ≤ n → isTxt l = cleanL l := by
  induction n with
  | zero =>
    intro l h
    obtain rfl : l = [] := List.eq_nil_of_length_eq_zero (by omega)
    rfl
  | succ n ih =>
    intro l h
    by_cases hl : 0 < l.length
    · have ec : cleanL l = (goodC l && cleanL (l.drop (decW l))) := allF_step _ _ hl
      have hr := rlL_range l hl
      by_cases h0 : rlL l = 0
      · have eg : goodC l = false := by unfold goodC; simpa using h0
        rw [isTxt_no l hl h0, ec, eg, Bool.false_and]
      · have eg : goodC l = true := by unfold goodC; simpa using h0
        have ew : decW l = (rlL l).toNat := by unfold decW; rw [if_neg h0]
        rw [isTxt_step l hl h0, ec, eg, Bool.true_and, ew]
        exact ih _ (by rw [List.length_drop]; omega)
    · obtain rfl : l = [] := List.eq_nil_of_length_eq_zero (by omega)
      rfl
theorem natL_app (l r : List UInt8) (k : Nat) (h : k < l.length) : natL (l ++ r) k = natL l k := by
  unfold natL; rw [List.getD_eq_getElem?_getD, List.getD_eq_getElem?_getD, List.getElem?_append_left h]
theorem qpiece_app (html : Bool) (l r : List UInt8) (hl : 0 < l.length) (h0 : ¬ rlL l = 0) : qpiece html false (l ++ r) = qpiece html false l := by
  obtain ⟨e1, e2⟩ := rlL_app l r hl h0
  have hw := decW_range l hl
  unfold qpiece
  rw [natL_app l r 0 hl, e1, e2, List.take_append_of_le_length (by omega), List.take_append_of_le_length (by omega)]
  simp
theorem quote_join (A B : List UInt8) (hA : cleanL A = true) : quoteL (A ++ B) = (quoteL A).take ((quoteL A).length - 1) ++ (quoteL B).drop 1 := by
  have h := runF_join (qpiece false false) (fun l r hl h0 => qpiece_app false l r hl h0) B A.length A (Nat.le_refl _) hA
  unfold quoteL
  rw [h]
  have e : ([34] ++ runF (qpiece false false) 0 A ++ [34] : List UInt8).length - 1 = ([34] ++ runF (qpiece false false) 0 A).length := by simp
  rw [e, List.take_left]
  simp
theorem quoteL_length (A : List UInt8) : 2 ≤ (quoteL A).length ∧ (quoteL A).length ≤ 6 * A.length + 2 := by
  have h := runF_length (qpiece false false) 6 (fun l hl => qpiece_length _ _ l hl) A.length A (Nat.le_refl _)
  unfold quoteL
  simp only [List.length_append, List.length_cons, List.length_nil]
  omega
def QJ (one : ByteArray) (w : World) (e : Ending) (w' : World) : Prop := e = .returned (.tuple #[.string one, .bool true]) ∧ Below w.heap.size w w'
theorem quote_of (s : ByteArray) (E : Addr) (w : World) (hs : s.size ≤ 2147483647) (hc : cleanL s.data.toList = true) (hT : Tabs w E) (w0 : World) (h0 : Below w.heap.size w w0) :
    Calls Tryd.prog 15 #[.string ByteArray.empty, .string s] w0 (QJ ⟨(quoteL s.data.toList).toArray⟩ w0) := by
  refine (implQuote ByteArray.empty s E w0 (by decide) hs (hT.below h0 hT.size)).mono ?_
  rintro e w' ⟨rfl, hb⟩
  rw [hc]
  exact ⟨rfl, hb⟩
theorem add_list (a b : ByteArray) : (a ++ b).data.toList = a.data.toList ++ b.data.toList := by simp
theorem joined (a b : ByteArray) (hA : cleanL a.data.toList = true) (one two : ByteArray) (h1 : one = ⟨(quoteL a.data.toList).toArray⟩) (h2 : two = ⟨(quoteL b.data.toList).toArray⟩) :
    (⟨(quoteL (a ++ b).data.toList).toArray⟩ : ByteArray) = one.extract 0 (one.size - 1) ++ two.extract 1 two.size := by
  apply ByteArray.ext
  apply Array.toList_inj.1
  have e1 : one.data.toList = quoteL a.data.toList := by rw [h1]
  have e2 : two.data.toList = quoteL b.data.toList := by rw [h2]
  have s1 : one.size = (quoteL a.data.toList).length := by rw [← size_list, e1]
  have s2 : two.size = (quoteL b.data.toList).length := by rw [← size_list, e2]
  rw [add_list (one.extract 0 (one.size - 1)), Lib.extract_data, Lib.extract_data, e1, e2, s1, s2, add_list, quote_join _ _ hA]
  simp
  rw [List.take_of_length_le (by simp)]
theorem clean_app (A B : List UInt8) (hA : cleanL A = true) (hB : cleanL B = true) : cleanL (A ++ B) = true := by
  have key : ∀ (n : Nat) (l : List UInt8), l.length ≤ n → cleanL l = true → cleanL (l ++ B) = true := by
    intro n
    induction n with
    | zero =>
      intro l h _
      obtain rfl : l = [] := List.eq_nil_of_length_eq_zero (by omega)
      rw [List.nil_append]; exact hB
    | succ n ih =>
      intro l h hc
      by_cases hl : 0 < l.length
      · obtain ⟨h0, hc'⟩ := cleanL_step l hl hc
        obtain ⟨e1, e2⟩ := rlL_app l B hl h0
        have hw := decW_range l hl
        have ec : cleanL (l ++ B) = (goodC (l ++ B) && cleanL ((l ++ B).drop (decW (l ++ B)))) := allF_step _ _ (by rw [List.length_append]; omega)
        have eg : goodC (l ++ B) = true := by unfold goodC; rw [e1]; simpa using h0
        rw [ec, eg, e2, List.drop_append_of_le_length (by omega), Bool.true_and]
        exact ih _ (by rw [List.length_drop]; omega) hc'
      · obtain rfl : l = [] := List.eq_nil_of_length_eq_zero (by omega)
        rw [List.nil_append]; exact hB
  exact key A.length A (Nat.le_refl _) hA
set_option maxRecDepth 100000 in
set_option maxHeartbeats 2000000 in
theorem law_walk (a b : ByteArray) (E : Addr) (w : World) (ha : a.size ≤ 2147483647) (hb : b.size ≤ 2147483647) (hT : Tabs w E) :
    Calls Tryd.prog 7 #[.string a, .string b] w fun e w' => e = .returned (.bool true) ∧ Below w.heap.size w w' := by
  have hg := fit2 a b w ha hb
  have hwb : Below w.heap.size w (w.alloc (Obj.cells #[.string a, .string b] 9)) := (Below.refl _ _).alloc (Nat.le_refl _) _
  cases hgv : (okFit a && okFit b)
  · rw [hgv] at hg
    clear hT hgv
    go_enter Tryd.func7, Tryd.ntmps7
    go_wp2_with fail
    refine hg.mono ?_
    rintro e w' ⟨rfl, rfl⟩
    clear hg
    go_wp2
    go_ret
    exact ⟨rfl, hwb⟩
  · rw [hgv] at hg
    rw [Bool.and_eq_true] at hgv
    have sa : a.size ≤ 1000 := by have := hgv.1; unfold okFit at this; simpa using this
    have sb : b.size ≤ 1000 := by have := hgv.2; unfold okFit at this; simpa using this
    clear hgv
    have ta := fun W => isText a W ha
    have tb := fun W => isText b W hb
    rw [isTxt_clean _ _ (Nat.le_refl _)] at ta tb
    have TA := Lib.hid ta
    have TB := Lib.hid tb
    clear ta tb
    cases hca : cleanL a.data.toList
    · rw [hca] at TA
      clear hT hca
      go_enter Tryd.func7, Tryd.ntmps7
      go_wp2_with fail
      refine hg.mono ?_
      rintro e w' ⟨rfl, rfl⟩
      clear hg
      go_wp2_with fail
      refine (TA.out _).mono ?_
      rintro e w' ⟨rfl, rfl⟩
      go_wp2
      go_ret
      exact ⟨rfl, hwb⟩
    · rw [hca] at TA
      cases hcb : cleanL b.data.toList
      · rw [hcb] at TB
        clear hT hca hcb
        go_enter Tryd.func7, Tryd.ntmps7
        go_wp2_with fail
        refine hg.mono ?_
        rintro e w' ⟨rfl, rfl⟩
        clear hg
        go_wp2_with fail
        refine (TA.out _).mono ?_
        rintro e w' ⟨rfl, rfl⟩
        go_wp2_with fail
        refine (TB.out _).mono ?_
        rintro e w' ⟨rfl, rfl⟩
        go_wp2
        go_ret
        exact ⟨rfl, hwb⟩
      · rw [hcb] at TB
        have hab : (a ++ b).size ≤ 2147483647 := by simp; omega
        have q1 := quote_of a E w ha hca hT
        have q2 := quote_of b E w hb hcb hT
        have q3 := quote_of (a ++ b) E w hab (by rw [add_list]; exact clean_app _ _ hca hcb) hT
        have hl1 := quoteL_length a.data.toList
        have hl2 := quoteL_length b.data.toList
        rw [size_list] at hl1 hl2
        obtain ⟨one, h1⟩ : ∃ x : ByteArray, x = ⟨(quoteL a.data.toList).toArray⟩ := ⟨_, rfl⟩
        obtain ⟨two, h2⟩ : ∃ x : ByteArray, x = ⟨(quoteL b.data.toList).toArray⟩ := ⟨_, rfl⟩
        have hj := joined a b hca one two h1 h2
        have z1 : one.size = (quoteL a.data.toList).length := by rw [h1]; simp [ByteArray.size]
        have z2 : two.size = (quoteL b.data.toList).length := by rw [h2]; simp [ByteArray.size]
        rw [← z1] at hl1
        rw [← z2] at hl2
        rw [← h1] at q1
        rw [← h2] at q2
        rw [hj] at q3
        have hadd0 : ∀ W, (Op.stringOp .add a b).run Tryd.prog W = .ok (.string (a ++ b)) W := fun W => run_string_add_sum W _ _ (by omega)
        have hadd : ∀ W, (Op.stringOp .add (one.extract 0 (one.size - 1)) (two.extract 1 two.size)).run Tryd.prog W = .ok (.string (one.extract 0 (one.size - 1) ++ two.extract 1 two.size)) W := fun W => run_string_add_sum W _ _ (by rw [ByteArray.size_extract, ByteArray.size_extract]; omega)
        obtain ⟨l1, u1⟩ := hl1
        obtain ⟨l2, u2⟩ := hl2
        have l1' : (2 : Int) ≤ (one.size : Int) := by omega
        have l2' : (2 : Int) ≤ (two.size : Int) := by omega
        have Q1 := Lib.hid q1
        have Q2 := Lib.hid q2
        have Q3 := Lib.hid q3
        have HW := Lib.hid hwb
        clear q1 q2 q3 h1 h2 hj z1 z2 hca hcb hT hwb
        go_enter Tryd.func7, Tryd.ntmps7
        go_wp2_with fail
        refine hg.mono ?_
        rintro e w' ⟨rfl, rfl⟩
        clear hg
        go_wp2_with fail
        refine (TA.out _).mono ?_
        rintro e w' ⟨rfl, rfl⟩
        go_wp2_with fail
        refine (TB.out _).mono ?_
        rintro e w' ⟨rfl, rfl⟩
        go_wp2_with fail
        refine (Q1.out _ HW.out).mono ?_
        rintro e w1 ⟨rfl, hb1⟩
        have HB1 := Lib.hid (HW.out.trans (hb1.mono HW.out.size))
        clear hb1 HW
        go_wp2_with fail
        refine (Q2.out _ HB1.out).mono ?_
        rintro e w2 ⟨rfl, hb2⟩
        have HB2 := Lib.hid (HB1.out.trans (hb2.mono HB1.out.size))
        clear hb2 HB1
        go_wp2_with fail
        refine (Q3.out _ HB2.out).mono ?_
        rintro e w3 ⟨rfl, hb3⟩
        have HB3 := Lib.hid (HB2.out.trans (hb3.mono HB2.out.size))
        clear hb3 HB2
        go_wp2
        go_quiet (fail)
        go_wp2
        go_ret
        exact ⟨rfl, below_drewN HB3.out _⟩
theorem fnQuoteJoin_any (a b : ByteArray) (w : World) (_ : a.size ≤ maxLen) (_ : b.size ≤ maxLen) {E : Addr} (hT : Tabs w E) :
    Calls Tryd.prog 7 #[.string a, .string b] w fun e w' => e = .returned (.bool true) ∧ Below w.heap.size w w' := by
  by_cases h : a.size ≤ 2147483647
  · by_cases h2 : b.size ≤ 2147483647
    · exact law_walk a b E w h h2 hT
    · have h' : 2147483647 < b.size := by omega
      clear hT h2
      go_enter Tryd.func7, Tryd.ntmps7
      go_wp2
      go_ret
      exact ⟨rfl, Below.refl _ _⟩
  · have h' : 2147483647 < a.size := by omega
    clear hT h
    go_enter Tryd.func7, Tryd.ntmps7
    go_wp2
    go_ret
    exact ⟨rfl, Below.refl _ _⟩
end Go.Proofs.YtldcoaigecnpfaaDoor
