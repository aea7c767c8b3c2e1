/- A simple string at the beginning of a text: the package's ConsumeSimpleString, and the reference's SimpleString, walked. -/
import Derived.Test.YtbnnccadnnfomaaDoorStrHead
import Derived.Test.YtbnnccadnnfomaaDoorBytes
import Derived.Test.YtbnnccadnnfomaaDoorLaidEsc
namespace Go.Proofs.YtbnnccadnnfomaaDoor
open Go.RowKit
/-- A byte that stands in a simple string. -/
def smp (c : Int) : Prop := 32 ≤ c ∧ c < 128 ∧ ¬ c = 34 ∧ ¬ c = 38 ∧ ¬ c = 60 ∧ ¬ c = 62 ∧ ¬ c = 92
instance (c : Int) : Decidable (smp c) := by unfold smp; infer_instance
/-- A byte for which a string is none that is simple. -/
def bad (c : Int) : Prop := 128 ≤ c ∨ c = 92 ∨ c = 60 ∨ c = 62 ∨ c = 38
instance (c : Int) : Decidable (bad c) := by unfold bad; infer_instance
/-- The first place from k on that is none of a simple byte. -/
def stopF (l : List UInt8) : Nat → Nat → Nat
  | 0, k => k
  | n + 1, k => if k < l.length ∧ smp (atL l k) then stopF l n (k + 1) else k
def stopN (l : List UInt8) (k : Nat) : Nat := stopF l (l.length - k) k
theorem stopN_step {l : List UInt8} {k : Nat} (hk : k < l.length) (h : smp (atL l k)) : stopN l k = stopN l (k + 1) := by
  unfold stopN
  rw [show l.length - k = (l.length - (k + 1)) + 1 by omega, stopF, if_pos ⟨hk, h⟩]
theorem stopN_at {l : List UInt8} {k : Nat} (h : ¬ (k < l.length ∧ smp (atL l k))) : stopN l k = k := by
  unfold stopN
  generalize l.length - k = n
  cases n with
  | zero => rfl
  | succ n => rw [stopF, if_neg h]
/-- What the package tells of a simple string. -/
def css (l : List UInt8) : Nat := if 0 < l.length ∧ atL l 0 = 34 then (if stopN l 1 < l.length ∧ atL l (stopN l 1) = 34 then stopN l 1 + 1 else 0) else 0
theorem smp_step {lo : Bool} {l : List UInt8} {k : Nat} (hk : k < l.length) (h : smp (atL l k)) : strN lo l k = strN lo l (k + 1) := by
  have e : stepN lo l k = k + 1 := by unfold stepN; unfold smp at h; rw [if_neg (by omega), if_neg (by omega), if_pos (by omega)]
  rw [strN_step hk (by unfold smp at h; omega) (by rw [e]; omega), e]
theorem stop_str (lo : Bool) (l : List UInt8) : ∀ (n k : Nat), l.length ≤ n + k → k ≤ l.length → strN lo l k = strN lo l (stopN l k) ∧ k ≤ stopN l k ∧ stopN l k ≤ l.length ∧ (∀ j, k ≤ j → j < stopN l k → smp (atL l j)) ∧ ¬ (stopN l k < l.length ∧ smp (atL l (stopN l k)))
  | 0, k, hn, hk => by
    have e : stopN l k = k := stopN_at (by omega)
    rw [e]
    exact ⟨rfl, Nat.le_refl _, hk, fun j a b => by omega, by omega⟩
  | n + 1, k, hn, hk => by
    by_cases h : k < l.length ∧ smp (atL l k)
    · rw [stopN_step h.1 h.2, smp_step h.1 h.2]
      obtain ⟨a, b, c, d, e⟩ := stop_str lo l n (k + 1) (by omega) (by omega)
      refine ⟨a, by omega, c, fun j x y => ?_, e⟩
      by_cases q : j = k
      · subst q; exact h.2
      · exact d j (by omega) y
    · have e : stopN l k = k := stopN_at h
      rw [e]
      exact ⟨rfl, Nat.le_refl _, hk, fun j a b => by omega, h⟩
/-- The law in plain words: what the package tells is what the reference tells. -/
theorem css_law (l : List UInt8) : (strQ false l 0 = 0 → css l = 0) ∧ (¬ strQ false l 0 = 0 → (∀ k, k ≤ strQ false l 0 → bad (atL l k) → css l = 0) ∧ ((∀ k, k ≤ strQ false l 0 → ¬ bad (atL l k)) → css l = strQ false l 0 + 1)) := by
  have hs : seeP l 0 = 34 ↔ (0 < l.length ∧ atL l 0 = 34) := by
    unfold seeP
    by_cases h : 0 < l.length
    · rw [if_pos h]; exact ⟨fun q => ⟨h, q⟩, fun q => q.2⟩
    · rw [if_neg h]; exact ⟨fun q => by omega, fun q => absurd q.1 h⟩
  by_cases h0 : seeP l 0 = 34
  · have h1 := hs.1 h0
    have eq : strQ false l 0 = strN false l 1 := by unfold strQ; rw [if_pos h0]
    have ec : css l = if stopN l 1 < l.length ∧ atL l (stopN l 1) = 34 then stopN l 1 + 1 else 0 := by unfold css; rw [if_pos h1]
    rw [eq, ec]
    obtain ⟨a, b, c, d, e⟩ := stop_str false l l.length 1 (by omega) (by omega)
    rw [a]
    generalize stopN l 1 = j at a b c d e
    by_cases h34 : j < l.length ∧ atL l j = 34
    · rw [strN_quote h34.1 h34.2, if_pos h34]
      refine ⟨fun q => by omega, fun _ => ⟨fun k hk hb => ?_, fun _ => rfl⟩⟩
      exfalso
      unfold bad at hb
      by_cases q : k = j
      · subst q; omega
      · by_cases q0 : k = 0
        · subst q0; have := h1.2; omega
        · have := d k (by omega) (by omega)
          unfold smp at this
          omega
    · rw [if_neg h34]
      refine ⟨fun _ => rfl, fun hn => ⟨fun _ _ _ => rfl, fun hall => ?_⟩⟩
      exfalso
      have r := strN_range l.length j (by omega) (by omega) hn
      have hj : j < l.length := by omega
      have hb := hall j r.1
      have : atL l j < 32 := by
        unfold bad at hb
        have e' : ¬ smp (atL l j) := fun q => e ⟨hj, q⟩
        unfold smp at e'
        have : ¬ atL l j = 34 := fun q => h34 ⟨hj, q⟩
        omega
      exact hn (strN_fail hj (by omega) (by unfold stepN; rw [if_neg (by omega), if_pos this]))
  · have eq : strQ false l 0 = 0 := by unfold strQ; rw [if_neg h0]
    have ec : css l = 0 := by unfold css; rw [if_neg (fun q => h0 (hs.2 q))]
    rw [eq, ec]
    exact ⟨fun _ => rfl, fun q => absurd rfl q⟩
def SsPost (r : Nat) (w : World) (e : Ending) (w' : World) : Prop := e = .returned (.int .i64 r) ∧ Below w.heap.size w w'
set_option maxRecDepth 100000 in
set_option maxHeartbeats 1000000 in
theorem simpleString (s : ByteArray) (w : World) (hs : s.size ≤ 2147483647) :
    Calls Tryd.prog 6 #[.string s] w (SsPost (css s.data.toList) w) := by
  have hh := stringHead s true w (by omega)
  simp only [Bool.not_true] at hh
  obtain ⟨L1, L2⟩ := css_law s.data.toList
  have hr : ¬ strQ false s.data.toList 0 = 0 → strQ false s.data.toList 0 < s.size := fun q => by have := (strQ_range q).2.2.1; rwa [size_list] at this
  have hat := at_eq s
  generalize css s.data.toList = r at L1 L2 ⊢
  generalize strQ false s.data.toList 0 = q at hh L1 L2 hr
  have HH := Lib.hid hh
  have HL1 := Lib.hid L1
  have HL2 := Lib.hid L2
  have HR := Lib.hid hr
  have HAT := Lib.hid hat
  clear hh L1 L2 hr hat
  go_enter Tryd.func6, Tryd.ntmps6
  go_wp2_with fail
  refine HH.out.mono ?_
  rintro e w1 ⟨a, b, rfl, p1, p2, p3⟩
  have HB := Lib.hid p3
  clear p3 HH
  by_cases hq : q = 0
  · have hb0 := p2 hq
    have hb1 : (b != 0) = true := by simpa using hb0
    have hr0 := HL1.out hq
    clear p1 p2
    subst hr0
    go_wp2
    go_ret
    exact ⟨rfl, HB.out⟩
  · obtain ⟨rfl, rfl⟩ := p1 hq
    have hlt := HR.out hq
    have HQ := Lib.hid (HL2.out hq)
    clear p1 p2 HL1 HL2 HR
    go_wp2
    go_loopg [15] (q + 1) (fun g i wx => ∃ k : Nat, k ≤ q + 1 ∧ g = q + 1 - k ∧ i = .int .i64 k ∧ wx = w1 ∧ Hid (∀ j, j < k → ¬ bad (atL s.data.toList j)))
    case atStart => exact ⟨0, by omega, rfl, rfl, rfl, fun j hj => absurd hj (Nat.not_lt_zero _)⟩
    case round =>
      obtain ⟨k, hk, rfl, rfl, rfl, hall⟩ := hrel
      by_cases hkq : k < q + 1
      · have hks : k < s.size := by omega
        have hb := HAT.out k hks
        by_cases hbad : bad (atL s.data.toList k)
        · have hr0 : r = 0 := HQ.out.1 k (by omega) hbad
          rw [← hb] at hbad
          clear hb
          subst hr0
          rcases hbad with h | h | h | h | h
          · have b0 : decide (128 ≤ ((s[k]'hks).toNat : Int)) = true := by simp; omega
            clear h
            go_wp2
            go_ret
            exact ⟨rfl, HB.out⟩
          · have b0 : decide (128 ≤ ((s[k]'hks).toNat : Int)) = false := by simp; omega
            have b1 : (((s[k]'hks).toNat : Int) == 92) = true := by simp; omega
            clear h
            go_wp2
            go_ret
            exact ⟨rfl, HB.out⟩
          · have b0 : decide (128 ≤ ((s[k]'hks).toNat : Int)) = false := by simp; omega
            have b1 : (((s[k]'hks).toNat : Int) == 92) = false := by simp; omega
            have b2 : (((s[k]'hks).toNat : Int) == 60) = true := by simp; omega
            clear h
            go_wp2
            go_ret
            exact ⟨rfl, HB.out⟩
          · have b0 : decide (128 ≤ ((s[k]'hks).toNat : Int)) = false := by simp; omega
            have b1 : (((s[k]'hks).toNat : Int) == 92) = false := by simp; omega
            have b2 : (((s[k]'hks).toNat : Int) == 60) = false := by simp; omega
            have b3 : (((s[k]'hks).toNat : Int) == 62) = true := by simp; omega
            clear h
            go_wp2
            go_ret
            exact ⟨rfl, HB.out⟩
          · have b0 : decide (128 ≤ ((s[k]'hks).toNat : Int)) = false := by simp; omega
            have b1 : (((s[k]'hks).toNat : Int) == 92) = false := by simp; omega
            have b2 : (((s[k]'hks).toNat : Int) == 60) = false := by simp; omega
            have b3 : (((s[k]'hks).toNat : Int) == 62) = false := by simp; omega
            have b4 : (((s[k]'hks).toNat : Int) == 38) = true := by simp; omega
            clear h
            go_wp2
            go_ret
            exact ⟨rfl, HB.out⟩
        · have hall' : ∀ j, j < k + 1 → ¬ bad (atL s.data.toList j) := fun j hj => by
            by_cases e : j = k
            · subst e; exact hbad
            · exact hall.out j (by omega)
          have HALL := Lib.hid hall'
          rw [← hb] at hbad
          unfold bad at hbad
          have b0 : decide (128 ≤ ((s[k]'hks).toNat : Int)) = false := by simp; omega
          have b1 : (((s[k]'hks).toNat : Int) == 92) = false := by simp; omega
          have b2 : (((s[k]'hks).toNat : Int) == 60) = false := by simp; omega
          have b3 : (((s[k]'hks).toNat : Int) == 62) = false := by simp; omega
          have b4 : (((s[k]'hks).toNat : Int) == 38) = false := by simp; omega
          clear hb hbad hall'
          go_wp2
          go_roundg (q + 1 - (k + 1))
          case measure => omega
          case rel => exact ⟨k + 1, by omega, rfl, by go_num, rfl, HALL⟩
      · have hke : k = q + 1 := by omega
        have hr1 : r = q + 1 := HQ.out.2 fun j hj => hall.out j (by omega)
        subst hr1
        go_wp2
        go_ret
        exact ⟨rfl, HB.out⟩
/-- The table's byte 0: a simple byte, below 128. -/
theorem escT_smp (c : Nat) (h : c < 128) : (smp (c : Int) → escT c = 0) ∧ (¬ smp (c : Int) → escT c = 1) := by
  unfold smp escT
  refine ⟨fun q => by rw [if_neg (by omega)], fun q => by rw [if_pos (by omega)]⟩
set_option maxRecDepth 100000 in
set_option maxHeartbeats 1000000 in
theorem consume (g cap : Nat) (l : List UInt8) (w : World) (hs : l.length ≤ 2147483647) (hn : 0 < l.length) (hE : EscAt w) (hc : BytesAt w g 0 l) (h34 : atL l 0 = 34) :
    Calls Tryd.prog 7 #[.slice (some ⟨g, 0, none⟩) l.length cap] w (fun e w' => e = .returned (.int .i64 (css l)) ∧ w = w') := by
  have c0 : w.cell? ⟨g, 0, none⟩ = some (.int .u8 34) := by have := hc 0 hn; rwa [Nat.zero_add, h34] at this
  have hv : css l = if stopN l 1 < l.length ∧ atL l (stopN l 1) = 34 then stopN l 1 + 1 else 0 := by unfold css; rw [if_pos ⟨hn, h34⟩]
  have hck : ∀ k, k < l.length → w.cell? ⟨g, k, none⟩ = some (.int .u8 (natL l k)) := fun k h => by have := hc k h; rwa [Nat.zero_add] at this
  have hstep : ∀ k, k < l.length → smp ((natL l k : Nat) : Int) → stopN l k = stopN l (k + 1) := fun k h q => stopN_step h q
  have hstop : ∀ k, ¬ (k < l.length ∧ smp ((natL l k : Nat) : Int)) → stopN l k = k := fun k q => stopN_at q
  have hat : ∀ k, atL l k = ((natL l k : Nat) : Int) := fun k => rfl
  have hnl := natL_lt l
  generalize css l = r at hv ⊢
  obtain ⟨n, hnn⟩ : ∃ n, n = l.length := ⟨_, rfl⟩
  rw [← hnn] at hs hn hv hck hstep hstop ⊢
  have HV := Lib.hid hv
  have HCK := Lib.hid hck
  have HSTEP := Lib.hid hstep
  have HSTOP := Lib.hid hstop
  have HE := Lib.hid hE
  have HAT := Lib.hid hat
  have HNL := Lib.hid hnl
  clear hv hck hstep hstop hE hc hnn h34 hat hnl
  go_enter Tryd.func7, Tryd.ntmps7
  go_wp2
  go_loopg [2] (n - 1) (fun q i wx => ∃ k : Nat, 1 ≤ k ∧ k ≤ n ∧ q = n - k ∧ i = .int .i64 k ∧ wx = w ∧ Hid (stopN l 1 = stopN l k))
  case atStart => exact ⟨1, Nat.le_refl _, hn, rfl, rfl, rfl, rfl⟩
  case round =>
    obtain ⟨k, hk1, hk, rfl, rfl, rfl, hT⟩ := hrel
    by_cases hkn : k < n
    · have ck := HCK.out k hkn
      have hb : natL l k < 256 := HNL.out k
      by_cases hsm : smp ((natL l k : Nat) : Int)
      · have h128 : natL l k < 128 := by unfold smp at hsm; omega
        have he := HE.out (natL l k) h128
        rw [(escT_smp _ h128).1 hsm] at he
        have H2 : Hid (stopN l 1 = stopN l (k + 1)) := Lib.hid (hT.out.trans (HSTEP.out k hkn hsm))
        have hlt : ((natL l k : Nat) : Int) < 128 := by omega
        clear hsm
        generalize natL l k = c at ck he hlt h128 hb
        go_wp2
        go_roundg (n - (k + 1))
        case measure => omega
        case rel => exact ⟨k + 1, by omega, by omega, rfl, by go_num, rfl, H2⟩
      · have hst : stopN l 1 = k := hT.out.trans (HSTOP.out k fun q => hsm q.2)
        have hrr : r = if atL l k = 34 then k + 1 else 0 := by
          have := HV.out; rw [hst] at this; rw [this]
          by_cases q : atL l k = 34
          · rw [if_pos ⟨hkn, q⟩, if_pos q]
          · rw [if_neg (fun z => q z.2), if_neg q]
        rw [HAT.out k] at hrr
        clear hst HAT
        by_cases h128 : natL l k < 128
        · have he := HE.out (natL l k) h128
          rw [(escT_smp _ h128).2 hsm] at he
          clear hsm
          generalize natL l k = c at ck he h128 hb hrr
          have hlt : ((c : Nat) : Int) < 128 := by omega
          by_cases hq : (c : Int) = 34
          · rw [if_pos hq] at hrr
            have hq' : ((c : Int) == 34) = true := by simpa using hq
            subst hrr
            clear hq
            go_wp2
            go_ret
            exact ⟨ret_i64 (by omega), rfl⟩
          · rw [if_neg hq] at hrr
            have hq' : ((c : Int) == 34) = false := by simpa using hq
            subst hrr
            clear hq
            go_wp2
            go_ret
            exact ⟨rfl, rfl⟩
        · have hge : ¬ ((natL l k : Nat) : Int) < 128 := by omega
          have hq : ¬ ((natL l k : Nat) : Int) = 34 := by omega
          rw [if_neg hq] at hrr
          have hq' : (((natL l k : Nat) : Int) == 34) = false := by simpa using hq
          subst hrr
          clear hq hsm h128
          generalize natL l k = c at ck hge hb hq'
          go_wp2
          go_ret
          exact ⟨rfl, rfl⟩
    · have hst : stopN l 1 = k := hT.out.trans (HSTOP.out k fun q => hkn q.1)
      have hrr : r = 0 := by have := HV.out; rw [hst] at this; rw [this, if_neg (fun q => hkn q.1)]
      have hkk : k = n := by omega
      subst hrr
      subst hkk
      clear hkn
      go_wp2
      go_ret
      exact ⟨rfl, rfl⟩
end Go.Proofs.YtbnnccadnnfomaaDoor
