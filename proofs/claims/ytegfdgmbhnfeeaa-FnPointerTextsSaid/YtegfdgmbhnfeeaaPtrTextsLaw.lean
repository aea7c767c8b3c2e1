/- The statement FnPointerTexts, walked: it returns true, and leaves all that lay below as it was. -/
import Derived.Test.YtegfdgmbhnfeeaaPtrTextsP
import Derived.Test.YtegfdgmbhnfeeaaPtrTokens
import Derived.Test.YtegfdgmbhnfeeaaPtrAppend
import Derived.Test.YtegfdgmbhnfeeaaIsText
namespace Go.Proofs.Ytegfdgmbhnfeeaa
open Go.RowKit
/-- Texts of the input. -/
def InAt (w : World) (a : Addr) (ss : Nat → ByteArray) (n : Nat) : Prop := ∀ i, i < n → w.cell? (a.add i) = some (.string (ss i))
theorem InAt.below {w w' : World} {a : Addr} {ss : Nat → ByteArray} {n : Nat} (h : InAt w a ss n) (b : Below w.heap.size w w') : InAt w' a ss n := fun i hi => by
  have hc := h i hi
  have hlt : (a.add i).block < w.heap.size := World.block_lt_of_cell? _ _ hc
  exact (b.cell hlt).trans hc
def FitPost (ss : Nat → ByteArray) (n : Nat) (w : World) (e : Ending) (w' : World) : Prop := ∃ b, e = .returned (.bool b) ∧ (b = true → ∀ i, i < n → (ss i).size ≤ 2147483647) ∧ w' = w
set_option maxHeartbeats 1000000 in
theorem zzFits (ao : Option Addr) (n cap : Nat) (ss : Nat → ByteArray) (w : World) (hn : n ≤ maxLen) (hs : ∀ i, i < n → (ss i).size ≤ maxLen) (hc : ∀ a, ao = some a → InAt w a ss n) (hz : ao = none → n = 0) :
    Calls Try.prog 20 #[.slice ao n cap] w (FitPost ss n w) := by
  have hn' : n ≤ 9223372036854775807 := by unfold maxLen at hn; omega
  by_cases hbig : n ≤ 2147483647
  · have HC := Lib.hid hc
    have HS := Lib.hid hs
    have HZ := Lib.hid hz
    clear hc hs hz hn
    go_enter Try.func20, Try.ntmps20
    go_wp2
    go_loopg [10] n (fun q i wx => wx = w ∧ ∃ k : Nat, k ≤ n ∧ q = n - k ∧ i = .int .i64 k ∧ Hid (∀ i, i < k → (ss i).size ≤ 2147483647))
    case atStart => exact ⟨rfl, 0, Nat.zero_le _, rfl, rfl, Lib.hid fun i hi => absurd hi (Nat.not_lt_zero _)⟩
    case round =>
      obtain ⟨rfl, k, hk, rfl, rfl, hall⟩ := hrel
      by_cases hkn : k < n
      · cases ao with
        | none => have := HZ.out rfl; omega
        | some a =>
          have ck := HC.out a rfl k hkn
          have hsk := HS.out k hkn
          obtain ⟨s, hs⟩ : ∃ s, s = ss k := ⟨_, rfl⟩
          rw [← hs] at ck hsk
          have hsm : s.size ≤ 9223372036854775807 := by unfold maxLen at hsk; omega
          have HSK := Lib.hid hs
          clear hs hsk
          by_cases hbs : s.size ≤ 2147483647
          · have HN : Hid (∀ i, i < k + 1 → (ss i).size ≤ 2147483647) := Lib.hid fun i hi => by
              by_cases e : i = k
              · subst e; rw [← HSK.out]; exact hbs
              · exact hall.out i (by omega)
            go_wp2
            go_roundg (n - (k + 1))
            case measure => omega
            case rel => exact ⟨rfl, k + 1, by omega, rfl, by go_num, HN⟩
          · go_wp2
            go_ret
            exact ⟨false, rfl, (fun z => by cases z), rfl⟩
      · have HN : Hid (∀ i, i < n → (ss i).size ≤ 2147483647) := Lib.hid fun i hi => hall.out i (by omega)
        go_wp2
        go_ret
        exact ⟨true, rfl, fun _ => HN.out, rfl⟩
  · have hb' : (2147483647 : Int) < (n : Int) := by omega
    clear hc hs hz hn hbig
    go_enter Try.func20, Try.ntmps20
    go_wp2
    go_ret
    exact ⟨false, rfl, (fun z => by cases z), rfl⟩
def SamePost (w : World) (e : Ending) (w' : World) : Prop := e = .returned (.bool true) ∧ w' = w
theorem same0 (o1 o2 : Option Addr) (c1 c2 : Nat) (w : World) : Calls Try.prog 24 #[.slice o1 0 c1, .slice o2 0 c2] w (SamePost w) := by
  go_enter Try.func24, Try.ntmps24
  go_wp2
  refine wp_loop_rounds 1 ?_
  rw [rounds_succ]
  go_wp2
  go_ret
  exact ⟨rfl, rfl⟩
set_option maxHeartbeats 1000000 in
theorem sameN (a1 a2 : Addr) (n c1 c2 : Nat) (ss : Nat → ByteArray) (w : World) (hn : n ≤ 100) (h1 : InAt w a1 ss n) (h2 : InAt w a2 ss n) : Calls Try.prog 24 #[.slice (some a1) n c1, .slice (some a2) n c2] w (SamePost w) := by
  have H1 := Lib.hid h1
  have H2 := Lib.hid h2
  clear h1 h2
  go_enter Try.func24, Try.ntmps24
  go_wp2
  go_loopg [14] n (fun q i wx => wx = w ∧ ∃ k : Nat, k ≤ n ∧ q = n - k ∧ i = .int .i64 k)
  case atStart => exact ⟨rfl, 0, Nat.zero_le _, rfl, rfl⟩
  case round =>
    obtain ⟨rfl, k, hk, rfl, rfl⟩ := hrel
    by_cases hkn : k < n
    · have ca := H1.out k hkn
      have cb := H2.out k hkn
      generalize ss k = s at ca cb
      have hself : (s.toList == s.toList) = true := beq_self_eq_true _
      go_wp2
      go_roundg (n - (k + 1))
      case measure => omega
      case rel => exact ⟨rfl, k + 1, by omega, rfl, by go_num⟩
    · go_wp2
      go_ret
      exact ⟨rfl, rfl⟩
/-- The first texts as lists of bytes. -/
def tsL (ss : Nat → ByteArray) (k : Nat) : List (List UInt8) := (List.range k).map fun i => (ss i).data.toList
theorem tsL_len (ss : Nat → ByteArray) (k : Nat) : (tsL ss k).length = k := by simp [tsL]
theorem tsL_succ (ss : Nat → ByteArray) (k : Nat) : tsL ss (k + 1) = tsL ss k ++ [(ss k).data.toList] := by simp [tsL, List.range_succ]
theorem tsL_mem {ss : Nat → ByteArray} {k : Nat} {t : List UInt8} (h : t ∈ tsL ss k) : ∃ i, i < k ∧ t = (ss i).data.toList := by
  simp only [tsL, List.mem_map, List.mem_range] at h
  obtain ⟨i, hi, rfl⟩ := h
  exact ⟨i, hi, rfl⟩
theorem ptr_succ (ss : Nat → ByteArray) (k : Nat) : (⟨((strL (ptrOf (tsL ss k))).data.toList ++ 47 :: esc (ss k).data.toList).toArray⟩ : ByteArray) = strL (ptrOf (tsL ss (k + 1))) := by
  rw [tsL_succ, ptrOf_append, strL_data]
  have : ptrOf [(ss k).data.toList] = 47 :: esc (ss k).data.toList := by unfold ptrOf; simp
  rw [this]; rfl
/-- What is asked of the texts so far. -/
def TxOk (ss : Nat → ByteArray) (k : Nat) : Prop := ∀ j, j < k → (ss j).size ≤ 100 ∧ isTxt (ss j).data.toList = true
theorem TxOk.le {ss : Nat → ByteArray} {k : Nat} (h : TxOk ss k) : (ptrOf (tsL ss k)).length ≤ 201 * k := by
  have := ptrOf_le (tsL ss k) fun t ht => by
    obtain ⟨i, hi, rfl⟩ := tsL_mem ht
    rw [size_list]; exact (h i hi).1
  rwa [tsL_len] at this
theorem TxOk.okV {ss : Nat → ByteArray} {k : Nat} (h : TxOk ss k) : okV (ptrOf (tsL ss k)) := okV_ptr _ fun t ht => by
  obtain ⟨i, hi, rfl⟩ := tsL_mem ht
  exact (h i hi).2
/-- The tokens' cells. -/
theorem row_in {w : World} {base g n cap : Nat} {ss : Nat → ByteArray} (h : w.ownsRow base 9 1 (.slice (some ⟨g, 0, none⟩) n cap) n (encs (tsL ss n))) : InAt w ⟨g, 0, none⟩ ss n := fun i hi => by
  have hl : (tsL ss n).length = n := tsL_len ss n
  have hc := h.cellAt i (by omega)
  rw [encs_get (tsL ss n) i (by omega)] at hc
  have e1 : (tsL ss n)[i]'(by omega) = (ss i).data.toList := by simp [tsL]
  rw [e1] at hc
  have e2 : (⟨(ss i).data.toList.toArray⟩ : ByteArray) = ss i := by apply ByteArray.ext; simp
  rw [e2] at hc
  have e3 : (⟨g, 0, none⟩ : Addr).add i = ⟨g, i, none⟩ := by
    unfold Addr.add
    split
    · next q => subst q; rfl
    · simp
  rw [e3]
  exact hc
set_option maxRecDepth 100000 in
set_option maxHeartbeats 8000000 in
theorem law_walk (ao : Option Addr) (n cap : Nat) (ss : Nat → ByteArray) (w : World) (hn : n ≤ maxLen) (hs : ∀ i, i < n → (ss i).size ≤ maxLen) (hc : ∀ a, ao = some a → InAt w a ss n) (hz : ao = none → n = 0) :
    Calls Try.prog 7 #[.slice ao n cap] w fun e w' => e = .returned (.bool true) ∧ Below w.heap.size w w' := by
  have HZF := Lib.hid (zzFits ao n cap ss w hn hs hc hz)
  have hn' : n ≤ 9223372036854775807 := by unfold maxLen at hn; omega
  have HC : Hid (∀ W, Below w.heap.size w W → ∀ a, ao = some a → InAt W a ss n) := Lib.hid fun W hb a ha => (hc a ha).below hb
  have HZ := Lib.hid hz
  clear hc hz hs hn
  go_enter Try.func7, Try.ntmps7
  go_wp2_with fail
  refine HZF.out.mono ?_
  rintro e w1 ⟨b, rfl, hb, rfl⟩
  cases b
  · clear hb HZF
    go_wp2
    go_ret
    exact ⟨rfl, Below.refl _ _⟩
  · have HS := Lib.hid (hb rfl)
    clear hb HZF
    by_cases h100 : n ≤ 100
    · go_wp2
      go_loopg [3, 14] n (fun q b i wx => ∃ k : Nat, k ≤ n ∧ q = n - k ∧ i = .int .i64 k ∧ b = .string (strL (ptrOf (tsL ss k))) ∧ Hid (Below w1.heap.size w1 wx) ∧ Hid (TxOk ss k))
      case atStart => exact ⟨0, Nat.zero_le _, rfl, rfl, rfl, Lib.hid (Below.refl _ _), Lib.hid fun j hj => absurd hj (Nat.not_lt_zero _)⟩
      case round =>
        obtain ⟨k, hk, rfl, rfl, rfl, hB, hT⟩ := hrel
        have hple := hT.out.le
        by_cases hkn : k < n
        · cases ao with
          | none => have := HZ.out rfl; omega
          | some a =>
            have ck := HC.out wr hB.out a rfl k hkn
            have hsk := HS.out k hkn
            have hps : (strL (ptrOf (tsL ss k))).size ≤ 100000 := by rw [strL_size]; omega
            have hpn := ptr_succ ss k
            have HTX : Hid ((ss k).size ≤ 100 → isTxt (ss k).data.toList = true → TxOk ss (k + 1)) := Lib.hid fun a b j hj => by
              by_cases e : j = k
              · subst e; exact ⟨a, b⟩
              · exact hT.out j (by omega)
            have HPA : Hid ((ss k).size ≤ 100 → isTxt (ss k).data.toList = true → ∀ W, Calls Try.prog 22 #[.string (strL (ptrOf (tsL ss k))), .string (ss k)] W (fun e w' => e = .returned (.string (strL (ptrOf (tsL ss (k + 1))))) ∧ Below W.heap.size W w')) := Lib.hid fun a b W => by
              have := ptrAppend (strL (ptrOf (tsL ss k))) (ss k) W hps (by omega) b
              unfold TextPost at this
              rw [hpn] at this
              exact this
            have HIT := Lib.hid fun W => isText (ss k) W hsk
            clear hpn hps hple
            generalize ss k = s at ck hsk HTX HPA HIT
            generalize strL (ptrOf (tsL ss k)) = P0 at *
            by_cases hlen : s.size ≤ 100
            · have hl2 : ¬ ((100 : Int) < (s.size : Int)) := by omega
              cases hit : isTxt s.data.toList
              · rw [hit] at HIT
                clear HTX HPA hit
                go_wp2_with fail
                refine (HIT.out _).mono ?_
                rintro e w2 ⟨rfl, rfl⟩
                go_wp2
                go_ret
                exact ⟨rfl, hB.out⟩
              · rw [hit] at HIT
                have HT2 := Lib.hid (HTX.out hlen hit)
                have HP2 := Lib.hid (HPA.out hlen hit)
                clear HTX HPA hit
                go_wp2_with fail
                refine (HIT.out _).mono ?_
                rintro e w2 ⟨rfl, rfl⟩
                go_wp2_with fail
                refine (HP2.out _).mono ?_
                rintro e w3 ⟨rfl, hb3⟩
                have HB3 := Lib.hid (hB.out.trans (hb3.mono hB.out.size))
                clear hb3 hB
                go_wp2
                go_roundg (n - (k + 1))
                case measure => omega
                case rel => exact ⟨k + 1, by omega, rfl, by go_num, rfl, HB3, HT2⟩
            · have hl2 : ((100 : Int) < (s.size : Int)) := by omega
              clear HTX HPA HIT
              go_wp2
              go_ret
              exact ⟨rfl, hB.out⟩
        · obtain rfl : k = n := by omega
          have hsz : (strL (ptrOf (tsL ss k))).size ≤ 2147483647 := by rw [strL_size]; omega
          have HV := Lib.hid fun W => implIsValid (strL (ptrOf (tsL ss k))) W hsz (by rw [strL_data]; exact hT.out.okV)
          have HTK := Lib.hid fun W => ptrTokens (tsL ss k) W (by omega) (by rw [tsL_len]; omega)
          have HSM : Hid (∀ W v w3, Below w1.heap.size w1 w3 → w3.ownsRow W 9 1 v (tsL ss k).length (encs (tsL ss k)) → Calls Try.prog 24 #[v, .slice ao k cap] w3 (SamePost w3)) := Lib.hid fun W v w3 hb hr => by
            rw [tsL_len] at hr
            by_cases hk0 : k = 0
            · subst hk0
              rcases hr.2 with ⟨rfl, _⟩ | ⟨g, cap', cur, rfl, _⟩
              · exact same0 _ _ _ _ _
              · exact same0 _ _ _ _ _
            · cases ao with
              | none => exact absurd (HZ.out rfl) hk0
              | some a =>
                rcases hr.2 with ⟨_, q⟩ | ⟨g, cap', cur, rfl, _⟩
                · exact absurd q hk0
                · exact sameN _ _ _ _ _ ss w3 (by omega) (row_in hr) (HC.out w3 hb a rfl)
          clear hsz hple hT
          generalize strL (ptrOf (tsL ss k)) = P0 at *
          go_wp2_with fail
          refine (HV.out _).mono ?_
          rintro e w2 ⟨rfl, hb2⟩
          have HB2 := Lib.hid (hB.out.trans (hb2.mono hB.out.size))
          clear hb2 hB
          go_wp2_with fail
          refine (HTK.out _).mono ?_
          rintro e w3 ⟨v, rfl, hr3, hb3⟩
          have hb3' := HB2.out.trans (hb3.mono HB2.out.size)
          have HS3 := Lib.hid (HSM.out _ v w3 hb3' hr3)
          have HB3 := Lib.hid hb3'
          clear hb3 hr3 hb3' HB2 HSM HTK
          go_wp2_with fail
          refine HS3.out.mono ?_
          rintro e w4 ⟨rfl, rfl⟩
          go_wp2
          go_ret
          exact ⟨rfl, HB3.out⟩
    · have hb' : (100 : Int) < (n : Int) := by omega
      go_wp2
      go_ret
      exact ⟨rfl, Below.refl _ _⟩
end Go.Proofs.Ytegfdgmbhnfeeaa
