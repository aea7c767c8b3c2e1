/- The statement FnStringKept, walked: it returns true, and leaves all that lay below as it was. -/
import Derived.Test.YtldcoaigecnpfaaDoorStrAgain
import Derived.Test.YtldcoaigecnpfaaDoorStrPart
import Derived.Test.YtldcoaigecnpfaaDoorFits
import Derived.Test.YtldcoaigecnpfaaDoorClose
import Derived.Lib.Strings
namespace Go.Proofs.YtldcoaigecnpfaaDoor
open Go.RowKit
def keepO (lo : Bool) : Opts := ⟨0, if lo then 1 else 0, 0, 0, 0, 0, 0, 1, 0, 0, 0, false, ⟨#[]⟩, false, ⟨#[]⟩⟩
def AllPost (lo : Bool) (w : World) (e : Ending) (w' : World) : Prop := e = .returned (.agg #[.int .i64 0, .int .i64 (if lo then 1 else 0), .int .i64 0, .int .i64 0, .int .i64 0, .int .i64 0, .int .i64 0, .int .i64 0, .int .i64 0, .int .i64 0, .int .i64 0, .bool false, .string ⟨#[]⟩, .bool false, .string ⟨#[]⟩]) ∧ Below w.heap.size w w'
theorem allowed (lo : Bool) (w : World) : Calls Tryd.prog 23 #[.bool false, .bool lo] w (AllPost lo w) := by
  cases lo
  all_goals
    go_enter Tryd.func23, Tryd.ntmps23
    go_wp2
    refine bodyPost_ret (by simp [results, Tryd.results23, go_sem]) rfl ⟨rfl, ?_⟩
    repeat (first | exact Below.refl _ _ | refine Below.alloc ?_ (by simp) _ | refine Below.setCell (p := ⟨_, _, none⟩) ?_ (by simp) _)
theorem kept_size (dst text : ByteArray) (lo : Bool) (E : Addr) (w : World) (h1 : dst.size ≤ 1000) (h2 : text.size ≤ 1000) (hT : Tabs w E) (hq : ¬ strQ lo text.data.toList 0 = 0) (hall : strQ lo text.data.toList 0 + 1 = text.size) :
    Calls Tryd.prog 21 #[.string dst, .string text, .agg (keepO lo).cells] w (AgainPost (dst ++ text) text.size w) := by
  obtain ⟨e, he⟩ : ∃ e, e = strQ lo text.data.toList 0 := ⟨_, rfl⟩
  obtain ⟨a0, a1, a2, a3⟩ := strQ_range hq
  rw [← he] at a1 a2 a3 hall
  have hl := size_list text
  have hs : strN lo text.data.toList 1 = e := by
    rw [he]; unfold strQ; rw [if_pos a0]
  have h0 : atL text.data.toList 0 = 34 := by
    unfold seeP at a0; rw [if_pos (by omega)] at a0; exact a0
  have hv : (keepO lo).val = valN lo false false true false false := by cases lo <;> rfl
  have hS : (⟨(dst.data.toList ++ text.data.toList.take (e + 1)).toArray⟩ : ByteArray) = dst ++ text := by
    rw [List.take_of_length_le (by omega)]
    apply ByteArray.ext
    apply Array.toList_inj.1
    simp
  rw [← hS, ← hall]
  refine strAgain dst text (keepO lo) _ (e + 1) w h1 ?_
  intro B w3 h
  have f4 := fb4 lo false false true false false
  have f15 := fb1536 lo false false true false false
  have f32 := fb32 lo false false true false false
  obtain ⟨g, hg⟩ := h.fl.c0
  have hfl := h.fl.c1
  rw [hv] at hfl
  have hsz := hT.size
  have := reformKeep w3.heap.size (some (w.heap.size + 1, 0)) _ dst.data.toList (w.heap.size + 2) (convCap (convWorld (w.alloc (Obj.cells (keepO lo).cells 35)) dst) text) e B lo text.data.toList g _ E w3 h.buf h.txt (by rw [hl]; exact convCap_geA _ _) (by omega) (by rw [size_list]; omega) (Nat.le_refl _)
    (by intro g' o' q; injection q with q; injection q with q1 q2; have := h.size; omega) (by have := h.size; omega) (hT.below h.below hsz) (by have := h.size; omega) h.lt hg hfl f4 f15 f32 h0 a2 a3 (by omega) hs
  rw [hl] at this
  exact this
set_option maxRecDepth 100000 in
set_option maxHeartbeats 4000000 in
theorem law_walk (dst text : ByteArray) (lo : Bool) (E : Addr) (w : World) (h1 : dst.size ≤ 2147483647) (h2 : text.size ≤ 2147483647) (hT : Tabs w E) :
    Calls Tryd.prog 10 #[.string dst, .string text, .bool lo] w fun e w' => e = .returned (.bool true) ∧ Below w.heap.size w w' := by
  have HG := Lib.hid (fun W => fit2 dst text W h1 h2)
  have HP := Lib.hid (fun W : World => stringPart text lo W (by omega))
  have HA := Lib.hid (fun W : World => allowed lo W)
  have HK : Hid (okFit dst = true → okFit text = true → ¬ strQ lo text.data.toList 0 = 0 → strQ lo text.data.toList 0 + 1 = text.size → ∀ W, Below w.heap.size w W → Calls Tryd.prog 21 #[.string dst, .string text, .agg (keepO lo).cells] W (AgainPost (dst ++ text) text.size W)) := Lib.hid fun a b c d W hW =>
    kept_size dst text lo E W (by unfold okFit at a; simpa using a) (by unfold okFit at b; simpa using b) (hT.below hW hT.size) c d
  have hadd : ∀ W, (Op.stringOp .add dst text).run Tryd.prog W = .ok (.string (dst ++ text)) W := fun W => run_string_add_sum W _ _ (by omega)
  have hself : ((dst ++ text).toList == (dst ++ text).toList) = true := beq_self_eq_true _
  have hrl : ¬ strQ lo text.data.toList 0 = 0 → strQ lo text.data.toList 0 < text.size := fun q => by have := (strQ_range q).2.2.1; rwa [size_list] at this
  have hd1 : ¬ ((2147483647 : Int) < (dst.size : Int)) := by omega
  have hd2 : ¬ ((2147483647 : Int) < (text.size : Int)) := by omega
  clear hT
  unfold PartPost at HP
  generalize strQ lo text.data.toList 0 = q at HP HK hrl
  generalize okFit dst = g1 at HG HK
  generalize okFit text = g2 at HG HK
  obtain ⟨g, hg⟩ : ∃ g, g = (g1 && g2) := ⟨_, rfl⟩
  rw [← hg] at HG
  obtain ⟨P, hP⟩ : ∃ P, P = text.extract 0 (q + 1) := ⟨_, rfl⟩
  rw [← hP] at HP
  have hPE : Hid (q + 1 = text.size → P = text) := Lib.hid fun h => by rw [hP, h]; exact ByteArray.extract_zero_size
  have hPN : Hid (¬ q = 0 → ¬ q + 1 = text.size → (P.toList == text.toList) = false) := Lib.hid fun h0 h => by
    have hz : P.size = q + 1 := by rw [hP, ByteArray.size_extract]; have := hrl h0; omega
    simp only [beq_eq_false_iff_ne, ne_eq]
    intro z
    have : P.toList.length = text.toList.length := by rw [z]
    rw [ByteArray.toList_eq, ByteArray.toList_eq] at this
    simp at this
    have e1 : P.data.size = P.size := rfl
    have e2 : text.data.size = text.size := rfl
    omega
  have HRL := Lib.hid hrl
  clear hP hrl
  have HGG := Lib.hid hg
  clear hg
  cases hq : decide (q = 0)
  · have hq0 : ¬ q = 0 := of_decide_eq_false hq
    clear hq
    have HQ0 := Lib.hid hq0
    clear hq0
    cases g
    · clear HK
      go_enter Tryd.func10, Tryd.ntmps10
      go_wp2_with fail
      refine (HP.out _).mono ?_
      rintro e w1 ⟨ha, hb, hb1⟩
      obtain rfl := ha HQ0.out
      have B1 := Lib.hid hb1
      clear ha hb hb1
      go_wp2_with fail
      refine (HG.out _).mono ?_
      rintro e w2 ⟨rfl, rfl⟩
      go_wp2
      go_ret
      exact ⟨rfl, B1.out.alloc B1.out.size _⟩
    · have hgg : g1 = true ∧ g2 = true := by simpa using HGG.out.symm
      by_cases hall : q + 1 = text.size
      · have HK2 := Lib.hid (HK.out hgg.1 hgg.2 HQ0.out hall)
        obtain rfl := hPE.out hall
        have hse : (P.toList == P.toList) = true := beq_self_eq_true _
        clear HK hall HRL
        cases lo
        all_goals
          go_enter Tryd.func10, Tryd.ntmps10
          go_wp2_with fail
          refine (HP.out _).mono ?_
          rintro e w1 ⟨ha, hb, hb1⟩
          obtain rfl := ha HQ0.out
          have B1 := Lib.hid hb1
          clear ha hb hb1
          go_wp2_with fail
          refine (HG.out _).mono ?_
          rintro e w2 ⟨rfl, rfl⟩
          have B2 := Lib.hid (B1.out.alloc B1.out.size (Obj.cells #[.string dst, .string P] 9))
          go_wp2_with fail
          refine (HA.out _).mono ?_
          rintro e w3 ⟨rfl, hb3⟩
          have B3 := Lib.hid (B2.out.trans (hb3.mono B2.out.size))
          clear hb3
          go_wp2_with fail
          refine (HK2.out _ ?hb).mono ?_
          case hb => exact B3.out.alloc B3.out.size _
          rintro e w5 ⟨rfl, hb5⟩
          go_wp2
          go_ret
          exact ⟨rfl, (B3.out.alloc B3.out.size _).trans (hb5.mono (by have := B3.out.size; simp; omega))⟩
      · have hne := hPN.out HQ0.out hall
        clear HK hall HRL hPE hPN
        go_enter Tryd.func10, Tryd.ntmps10
        go_wp2_with fail
        refine (HP.out _).mono ?_
        rintro e w1 ⟨ha, hb, hb1⟩
        obtain rfl := ha HQ0.out
        have B1 := Lib.hid hb1
        clear ha hb hb1
        go_wp2_with fail
        refine (HG.out _).mono ?_
        rintro e w2 ⟨rfl, rfl⟩
        go_wp2
        go_ret
        exact ⟨rfl, B1.out.alloc B1.out.size _⟩
  · have hq0 : q = 0 := of_decide_eq_true hq
    clear hq HK
    have HQ0 := Lib.hid hq0
    clear hq0
    cases g
    all_goals
      go_enter Tryd.func10, Tryd.ntmps10
      go_wp2_with fail
      refine (HP.out _).mono ?_
      rintro e w1 ⟨ha, hb, hb1⟩
      obtain ⟨s', rfl⟩ := hb HQ0.out
      have B1 := Lib.hid hb1
      clear ha hb hb1
      go_wp2_with fail
      refine (HG.out _).mono ?_
      rintro e w2 ⟨rfl, rfl⟩
      go_wp2
      go_ret
      exact ⟨rfl, B1.out.alloc B1.out.size _⟩
theorem fnStringKept_any (dst text : ByteArray) (lo : Bool) (w : World) (_ : dst.size ≤ maxLen) (_ : text.size ≤ maxLen) {E : Addr} (hT : Tabs w E) :
    Calls Tryd.prog 10 #[.string dst, .string text, .bool lo] w fun e w' => e = .returned (.bool true) ∧ Below w.heap.size w w' := by
  by_cases h1 : dst.size ≤ 2147483647
  · by_cases h2 : text.size ≤ 2147483647
    · exact law_walk dst text lo E w h1 h2 hT
    · have h' : 2147483647 < text.size := by omega
      go_enter Tryd.func10, Tryd.ntmps10
      go_wp2
      go_ret
      exact ⟨rfl, Below.refl _ _⟩
  · have h' : 2147483647 < dst.size := by omega
    go_enter Tryd.func10, Tryd.ntmps10
    go_wp2
    go_ret
    exact ⟨rfl, Below.refl _ _⟩
end Go.Proofs.YtldcoaigecnpfaaDoor
