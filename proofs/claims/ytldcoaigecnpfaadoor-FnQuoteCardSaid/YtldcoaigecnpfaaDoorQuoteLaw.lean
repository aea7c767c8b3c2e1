/- The statement FnQuote, walked: it returns true, and leaves all that lay below as it was. -/
import Derived.Test.YtldcoaigecnpfaaDoorSpecQuote0
import Derived.Test.YtldcoaigecnpfaaDoorFits
import Derived.Test.YtldcoaigecnpfaaDoorClose
namespace Go.Proofs.YtldcoaigecnpfaaDoor
open Go.RowKit
theorem put_behind (to : ByteArray) (Q : List UInt8) (want : ByteArray) (h : want = ⟨Q.toArray⟩) : (⟨(to.data.toList ++ Q).toArray⟩ : ByteArray) = to ++ want := by
  subst h
  apply ByteArray.ext
  apply Array.toList_inj.1
  simp
def QL (got : ByteArray) (ok : Bool) (w : World) (e : Ending) (w' : World) : Prop := e = .returned (.tuple #[.string got, .bool ok]) ∧ Below w.heap.size w w'
theorem quoteL_le (A : List UInt8) : (quoteL A).length ≤ 6 * A.length + 2 := by
  have h := runF_length (qpiece false false) 6 (fun l hl => qpiece_length _ _ l hl) A.length A (Nat.le_refl _)
  unfold quoteL
  simp only [List.length_append, List.length_cons, List.length_nil]
  omega
set_option maxRecDepth 100000 in
set_option maxHeartbeats 4000000 in
theorem law_walk (to s : ByteArray) (E : Addr) (w : World) (h1 : to.size ≤ 2147483647) (h2 : s.size ≤ 2147483647) (hT : Tabs w E) :
    Calls Tryd.prog 5 #[.string to, .string s] w fun e w' => e = .returned (.bool true) ∧ Below w.heap.size w w' := by
  have hq0 := quote0 s w h2
  have hqi := fun w0 (h0 : Below w.heap.size w w0) => implQuote to s E w0 h1 h2 (hT.below h0 hT.size)
  have hg := fun W => fit2 to s W h1 h2
  have hl := quoteL_le s.data.toList
  rw [size_list] at hl
  obtain ⟨want, hw⟩ : ∃ x : ByteArray, x = ⟨(quoteL s.data.toList).toArray⟩ := ⟨_, rfl⟩
  have hws : want.size = (quoteL s.data.toList).length := by rw [hw]; simp [ByteArray.size]
  have hpb := put_behind to (quoteL s.data.toList) want hw
  unfold StrBool at hq0
  unfold StrOk at hqi
  rw [← hw] at hq0
  rw [hpb] at hqi
  rw [← hws] at hl
  have hadd : ∀ W, (Op.stringOp .add to want).run Tryd.prog W = .ok (.string (to ++ want)) W := fun W => run_string_add_sum W _ _ (by omega)
  generalize cleanL s.data.toList = clean at hq0 hqi
  generalize (okFit to && okFit s) = g at hg
  have HQ0 := Lib.hid hq0
  have HQI := Lib.hid hqi
  have HG := Lib.hid hg
  clear hq0 hqi hg hw hws hpb hT hl
  cases g
  · go_enter Tryd.func5, Tryd.ntmps5
    go_wp2_with fail
    refine HQ0.out.mono ?_
    rintro e w1 ⟨rfl, hb1⟩
    have HB1 := Lib.hid hb1
    clear hb1
    go_wp2_with fail
    refine (HQI.out _ HB1.out).mono ?_
    rintro e w2 ⟨rfl, hb2⟩
    have HB2 := Lib.hid (HB1.out.trans (hb2.mono HB1.out.size))
    clear hb2
    go_wp2_with fail
    refine (HG.out _).mono ?_
    rintro e w3 ⟨rfl, rfl⟩
    go_wp2
    go_ret
    exact ⟨rfl, HB2.out.alloc HB2.out.size _⟩
  · cases clean
    all_goals
      go_enter Tryd.func5, Tryd.ntmps5
      go_wp2_with fail
      refine HQ0.out.mono ?_
      rintro e w1 ⟨rfl, hb1⟩
      have HB1 := Lib.hid hb1
      clear hb1
      go_wp2_with fail
      refine (HQI.out _ HB1.out).mono ?_
      rintro e w2 ⟨rfl, hb2⟩
      have HB2 := Lib.hid (HB1.out.trans (hb2.mono HB1.out.size))
      clear hb2
      go_wp2_with fail
      refine (HG.out _).mono ?_
      rintro e w3 ⟨rfl, rfl⟩
      go_wp2
      go_ret
      exact ⟨rfl, HB2.out.alloc HB2.out.size _⟩
theorem fnQuote_any (a b : ByteArray) (w : World) (_ : a.size ≤ maxLen) (_ : b.size ≤ maxLen) {E : Addr} (hT : Tabs w E) :
    Calls Tryd.prog 5 #[.string a, .string b] w fun e w' => e = .returned (.bool true) ∧ Below w.heap.size w w' := by
  by_cases h : a.size ≤ 2147483647
  · by_cases h2 : b.size ≤ 2147483647
    · exact law_walk a b E w h h2 hT
    · have h' : 2147483647 < b.size := by omega
      clear hT h2
      go_enter Tryd.func5, Tryd.ntmps5
      go_wp2
      go_ret
      exact ⟨rfl, Below.refl _ _⟩
  · have h' : 2147483647 < a.size := by omega
    clear hT h
    go_enter Tryd.func5, Tryd.ntmps5
    go_wp2
    go_ret
    exact ⟨rfl, Below.refl _ _⟩
end Go.Proofs.YtldcoaigecnpfaaDoor
