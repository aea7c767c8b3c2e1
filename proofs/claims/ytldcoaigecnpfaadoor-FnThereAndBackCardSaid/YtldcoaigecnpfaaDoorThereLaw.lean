/- The statement FnThereAndBack, walked: it returns true, and leaves all that lay below as it was. -/
import Derived.Test.YtldcoaigecnpfaaDoorImplUnq
import Derived.Test.YtldcoaigecnpfaaDoorBackP
import Derived.Test.YtldcoaigecnpfaaDoorMended
import Derived.Test.YtldcoaigecnpfaaDoorFits
import Derived.Test.YtldcoaigecnpfaaDoorClose
namespace Go.Proofs.YtldcoaigecnpfaaDoor
open Go.RowKit
theorem quoteL_qT2 (l : List UInt8) : quoteL l = qT (runF (qpiece false false) 0 l) := quoteL_qT l
theorem quoteL_le2 (A : List UInt8) : (quoteL A).length ≤ 6 * A.length + 2 := by
  have h := runF_length (qpiece false false) 6 (fun l hl => qpiece_length _ _ l hl) A.length A (Nat.le_refl _)
  unfold quoteL
  simp only [List.length_append, List.length_cons, List.length_nil]
  omega
def PairOk (got : ByteArray) (ok : Bool) (w : World) (e : Ending) (w' : World) : Prop := e = .returned (.tuple #[.string got, .bool ok]) ∧ Below w.heap.size w w'
set_option maxRecDepth 100000 in
set_option maxHeartbeats 4000000 in
theorem law_walk (s : ByteArray) (E : Addr) (w : World) (h2 : s.size ≤ 2147483647) (hT : Tabs w E) :
    Calls Tryd.prog 8 #[.string s] w fun e w' => e = .returned (.bool true) ∧ Below w.heap.size w w' := by
  have hg := fun W => fit1 s W h2
  obtain ⟨Y, hY⟩ : ∃ x : ByteArray, x = ⟨(mendL s.data.toList).toArray⟩ := ⟨_, rfl⟩
  obtain ⟨T, hTx⟩ : ∃ x : ByteArray, x = ⟨(quoteL s.data.toList).toArray⟩ := ⟨_, rfl⟩
  have HM : Hid (∀ W, Calls Tryd.prog 17 #[.string s] W (PairOk Y (cleanL s.data.toList) W)) := Lib.hid fun W => by rw [hY]; exact mended s W h2
  have HQ : Hid (∀ W, Below w.heap.size w W → Calls Tryd.prog 15 #[.string ⟨#[]⟩, .string s] W (PairOk T (cleanL s.data.toList) W)) := Lib.hid fun W hb => by
    rw [hTx]
    exact implQuote ⟨#[]⟩ s E W (by decide) h2 (hT.below hb hT.size)
  have HU : Hid (okFit s = true → ∀ W, Below w.heap.size w W → Calls Tryd.prog 18 #[.string ⟨#[]⟩, .string T] W (PairOk Y true W)) := Lib.hid fun hf W hb => by
    have hs : s.size ≤ 1000 := by unfold okFit at hf; simpa using hf
    have hl := quoteL_le2 s.data.toList
    rw [size_list] at hl
    obtain ⟨a, b, c⟩ := quote_back s.data.toList.length s.data.toList (Nat.le_refl _)
    have hts : T.size = (quoteL s.data.toList).length := by rw [hTx]; simp [ByteArray.size]
    have := implUnquote ⟨#[]⟩ T (runF (qpiece false false) 0 s.data.toList) E W (by rw [hTx, ← quoteL_qT2]) (by decide) (by omega) (hT.below hb hT.size) a b
    rw [c] at this
    rw [hY]
    exact this
  have hself : (Y.toList == Y.toList) = true := beq_self_eq_true _
  clear hY hTx hT
  generalize cleanL s.data.toList = clean at HM HQ
  generalize okFit s = g at hg HU
  have HG := Lib.hid hg
  clear hg
  cases g
  · clear HU HQ HM
    go_enter Tryd.func8, Tryd.ntmps8
    go_wp2_with fail
    refine (HG.out _).mono ?_
    rintro e w3 ⟨rfl, rfl⟩
    go_wp2
    go_ret
    exact ⟨rfl, (Below.refl _ _).alloc (Nat.le_refl _) _⟩
  · have HU2 := Lib.hid (HU.out rfl)
    clear HU
    have HB0 : Hid (Below w.heap.size w (w.alloc (Obj.cells #[.string s] 9))) := Lib.hid ((Below.refl _ _).alloc (Nat.le_refl _) _)
    cases clean
    all_goals
      go_enter Tryd.func8, Tryd.ntmps8
      go_wp2_with fail
      refine (HG.out _).mono ?_
      rintro e w3 ⟨rfl, rfl⟩
      go_wp2_with fail
      refine (HM.out _).mono ?_
      rintro e w4 ⟨rfl, hb4⟩
      have HB4 := Lib.hid (HB0.out.trans (hb4.mono HB0.out.size))
      clear hb4
      go_wp2_with fail
      refine (HQ.out _ HB4.out).mono ?_
      rintro e w5 ⟨rfl, hb5⟩
      have HB5 := Lib.hid (HB4.out.trans (hb5.mono HB4.out.size))
      clear hb5
      go_wp2_with fail
      refine (HU2.out _ HB5.out).mono ?_
      rintro e w6 ⟨rfl, hb6⟩
      have HB6 := Lib.hid (HB5.out.trans (hb6.mono HB5.out.size))
      clear hb6
      go_wp2
      go_ret
      exact ⟨rfl, HB6.out⟩
theorem fnThereAndBack_any (s : ByteArray) (w : World) (_ : s.size ≤ maxLen) {E : Addr} (hT : Tabs w E) :
    Calls Tryd.prog 8 #[.string s] w fun e w' => e = .returned (.bool true) ∧ Below w.heap.size w w' := by
  by_cases h : s.size ≤ 2147483647
  · exact law_walk s E w h hT
  · have h' : 2147483647 < s.size := by omega
    clear hT h
    go_enter Tryd.func8, Tryd.ntmps8
    go_wp2
    go_ret
    exact ⟨rfl, Below.refl _ _⟩
end Go.Proofs.YtldcoaigecnpfaaDoor
