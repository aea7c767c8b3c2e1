/- The reference's reader: a string up to its last quotation mark, walked: whether it is one, and the place of that mark. Plain words: a string that the grammar takes has pieces that can be read; by strict rules nothing of it is replaced. Of no program but for the reader's plain words. What ConsumeString keeps to, in plain words of no program: the pieces of a string, and whether each is written in the canonical way. -/
import Derived.Test.YtldcoaigecnpfaaDoorGRdStr
import Derived.Test.YtldcoaigecnpfaaDoorGClose
import Derived.Deep.LoopGhost
import Derived.Deep.RegionWith
namespace Go.Proofs.YtldcoaigecnpfaaDoor
open Go.RowKit
theorem hexAt_ltL {l : List UInt8} {k : Nat} (h : 0 ≤ hexAt l k) : k < l.length := by
  rcases Nat.lt_or_ge k l.length with q | q
  · exact q
  · exfalso
    have : seeP l k = 0 := by unfold seeP; rw [if_neg (by omega)]
    unfold hexAt at h
    rw [this] at h
    exact absurd h (by decide)
theorem seeP_ltL {l : List UInt8} {k : Nat} (h : ¬ seeP l k = 0) : k < l.length := by
  rcases Nat.lt_or_ge k l.length with q | q
  · exact q
  · exact absurd (by unfold seeP; rw [if_neg (by omega)]) h
theorem escN_range {lo : Bool} {l : List UInt8} {k : Nat} (h : ¬ escN lo l k = 0) : k < escN lo l k ∧ escN lo l k ≤ l.length := by
  unfold escN at h ⊢
  by_cases h8 : esc8 (seeP l k)
  · have := seeP_ltL (l := l) (k := k) (by unfold esc8 at h8; omega)
    rw [if_pos h8]; omega
  · rw [if_neg h8] at h ⊢
    by_cases h9 : seeP l k = 117
    · rw [if_pos h9] at h ⊢
      by_cases u : unitAt lo false l (k + 1)
      · rw [if_pos u] at h ⊢
        by_cases hf : halfAt lo false l (k + 1) = true
        · rw [if_pos hf] at h ⊢
          by_cases a : seeP l (k + 5) = 92 ∧ seeP l (k + 6) = 117 ∧ unitAt lo true l (k + 7)
          · rw [if_pos a]
            have := hexAt_ltL a.2.2.1.2.2.2
            omega
          · rw [if_neg a] at h; exact absurd rfl h
        · rw [if_neg hf]
          have := hexAt_ltL u.1.2.2.2
          omega
      · rw [if_neg u] at h; exact absurd rfl h
    · rw [if_neg h9] at h; exact absurd rfl h
/-- The place behind the character, or the escape, at a place that is no quotation mark; 0 if none stands there. -/
def stepN (lo : Bool) (l : List UInt8) (k : Nat) : Nat :=
  if atL l k = 92 then escN lo l (k + 1)
  else if atL l k < 32 then 0
  else if atL l k < 128 ∨ lo = true then k + 1
  else if rlL (l.drop k) = 0 then 0 else k + decW (l.drop k)
theorem stepN_range {lo : Bool} {l : List UInt8} {k : Nat} (hk : k < l.length) (h : ¬ stepN lo l k = 0) : k < stepN lo l k ∧ stepN lo l k ≤ l.length := by
  unfold stepN at h ⊢
  by_cases a : atL l k = 92
  · rw [if_pos a] at h ⊢
    have := escN_range h
    omega
  · rw [if_neg a] at h ⊢
    by_cases b : atL l k < 32
    · rw [if_pos b] at h; exact absurd rfl h
    · rw [if_neg b] at h ⊢
      by_cases c : atL l k < 128 ∨ lo = true
      · rw [if_pos c]; omega
      · rw [if_neg c] at h ⊢
        by_cases d : rlL (l.drop k) = 0
        · rw [if_pos d] at h; exact absurd rfl h
        · rw [if_neg d]
          have := decW_range (l.drop k) (by rw [List.length_drop]; omega)
          rw [List.length_drop] at this
          omega
def strF (lo : Bool) (l : List UInt8) : Nat → Nat → Nat
  | 0, _ => 0
  | n + 1, k => if k < l.length then (if atL l k = 34 then k else if stepN lo l k = 0 then 0 else strF lo l n (stepN lo l k)) else 0
/-- The place of the last quotation mark of a string whose inner part begins at a place, or 0. -/
def strN (lo : Bool) (l : List UInt8) (k : Nat) : Nat := strF lo l (l.length + 1 - k) k
theorem strF_eq (lo : Bool) (l : List UInt8) : ∀ (n m k : Nat), l.length < n + k → l.length < m + k → strF lo l n k = strF lo l m k
  | 0, 0, _, _, _ => rfl
  | 0, m + 1, k, hn, _ => by rw [strF, strF, if_neg (by omega)]
  | n + 1, 0, k, _, hm => by rw [strF, strF, if_neg (by omega)]
  | n + 1, m + 1, k, hn, hm => by
    rw [strF, strF]
    by_cases hk : k < l.length
    · rw [if_pos hk, if_pos hk]
      by_cases a : atL l k = 34
      · rw [if_pos a, if_pos a]
      · rw [if_neg a, if_neg a]
        by_cases b : stepN lo l k = 0
        · rw [if_pos b, if_pos b]
        · rw [if_neg b, if_neg b]
          have := stepN_range hk b
          exact strF_eq lo l n m _ (by omega) (by omega)
    · rw [if_neg hk, if_neg hk]
theorem strN_step {lo : Bool} {l : List UInt8} {k : Nat} (hk : k < l.length) (h : ¬ atL l k = 34) (h0 : ¬ stepN lo l k = 0) : strN lo l k = strN lo l (stepN lo l k) := by
  have := stepN_range hk h0
  unfold strN
  rw [show l.length + 1 - k = (l.length - k) + 1 by omega, strF, if_pos hk, if_neg h, if_neg h0]
  exact strF_eq lo l _ _ _ (by omega) (by omega)
theorem strN_fail {lo : Bool} {l : List UInt8} {k : Nat} (hk : k < l.length) (h : ¬ atL l k = 34) (h0 : stepN lo l k = 0) : strN lo l k = 0 := by
  unfold strN
  rw [show l.length + 1 - k = (l.length - k) + 1 by omega, strF, if_pos hk, if_neg h, if_pos h0]
theorem strN_quote {lo : Bool} {l : List UInt8} {k : Nat} (hk : k < l.length) (h : atL l k = 34) : strN lo l k = k := by
  unfold strN
  rw [show l.length + 1 - k = (l.length - k) + 1 by omega, strF, if_pos hk, if_pos h]
theorem strN_end {lo : Bool} {l : List UInt8} {k : Nat} (hk : ¬ k < l.length) : strN lo l k = 0 := by
  unfold strN
  generalize l.length + 1 - k = n
  cases n with
  | zero => rfl
  | succ n => rw [strF, if_neg hk]
theorem strN_range {lo : Bool} {l : List UInt8} : ∀ (n k : Nat), l.length ≤ n + k → 1 ≤ k → ¬ strN lo l k = 0 → k ≤ strN lo l k ∧ strN lo l k < l.length ∧ atL l (strN lo l k) = 34
  | 0, k, hn, _, h => absurd (strN_end (by omega)) h
  | n + 1, k, hn, h1, h => by
    by_cases hk : k < l.length
    · by_cases a : atL l k = 34
      · rw [strN_quote hk a]; exact ⟨Nat.le_refl _, hk, a⟩
      · by_cases b : stepN lo l k = 0
        · exact absurd (strN_fail hk a b) h
        · rw [strN_step hk a b] at h ⊢
          have r := stepN_range hk b
          have := strN_range n (stepN lo l k) (by omega) (by omega) h
          exact ⟨by omega, this.2⟩
    · exact absurd (strN_end hk) h
/-- The place of the last quotation mark of a string that begins at a place, or 0. -/
def strQ (lo : Bool) (l : List UInt8) (k : Nat) : Nat := if seeP l k = 34 then strN lo l (k + 1) else 0
theorem strQ_range {lo : Bool} {l : List UInt8} {k : Nat} (h : ¬ strQ lo l k = 0) : seeP l k = 34 ∧ k < strQ lo l k ∧ strQ lo l k < l.length ∧ atL l (strQ lo l k) = 34 := by
  unfold strQ at h ⊢
  by_cases a : seeP l k = 34
  · rw [if_pos a] at h ⊢
    have := strN_range l.length (k + 1) (by omega) (by omega) h
    exact ⟨a, by omega, this.2⟩
  · rw [if_neg a] at h; exact absurd rfl h
set_option maxRecDepth 100000 in
set_option maxHeartbeats 4000000 in
theorem quotedS (R : Nat) (s : ByteArray) (k0 : Nat) (tw lo : Bool) (f : Int) (op : Bool) (w : World) (h : RdAt w R s k0 tw lo f op) (hs : s.size ≤ 140737488355328) (hk0 : k0 ≤ s.size) :
    Calls Tryd.prog 31 #[.pointer (some ⟨R, 0, none⟩)] w (Rd (¬ strQ lo s.data.toList k0 = 0) (strQ lo s.data.toList k0) R s k0 tw lo f op w) := by
  have HN : Hid (strQ lo s.data.toList k0 = if seeP s.data.toList k0 = 34 then strN lo s.data.toList (k0 + 1) else 0) := Lib.hid rfl
  have HA := need1 R s k0 tw lo f op 34 (by decide) w h hs hk0
  have HA' := Lib.hid HA
  clear HA h
  generalize hv : strQ lo s.data.toList k0 = v at HN
  clear hv
  go_enter Tryd.func31, Tryd.ntmps31
  go_wp2_with fail
  refine HA'.out.mono ?_
  rintro e w1 (⟨ok1, rfl, h1, g1⟩ | ⟨ok1, rfl, ⟨k1, f1, le1, hk1, n1, h1⟩, g1⟩)
  · have H1 := Lib.hid h1
    have G1 := Lib.hid g1
    have hV : v = strN lo s.data.toList (k0 + 1) := by rw [HN.out, if_pos ok1]
    have hlt : k0 < s.size := (seeP_lt ok1 (by decide)).1
    have HV := Lib.hid hV
    clear h1 g1 ok1 HN HA' hV
    go_wp2_with fail
    go_loopg [2] (s.size - (k0 + 1)) (fun q z wx => ∃ k : Nat, z = .bool false ∧ k0 < k ∧ k ≤ s.size ∧ q = s.size - k ∧ Hid (RdAt wx R s k tw lo f op) ∧ Hid (w.grownBy wx (some R)) ∧ Hid (v = strN lo s.data.toList k))
    case atStart => exact ⟨k0 + 1, rfl, by omega, hlt, rfl, H1, G1, HV⟩
    case round =>
      clear H1 G1 HV
      obtain ⟨k, rfl, hkk, hks, rfl, hR, hG, hV⟩ := hrel
      have c0 := hR.out.c0
      have c1 := hR.out.c1
      have c3 := hR.out.c3
      have f1 := hR.out.fz 1
      by_cases hl : k < s.size
      · have hll : k < s.data.toList.length := by rw [size_list]; exact hl
        have hb : ((s[k]'hl).toNat : Int) = atL s.data.toList k := at_eq s k hl
        have hB := Lib.hid hb
        have hnl : ¬ s.size ≤ k := by omega
        clear hb
        have QF := fun W x => (failNo R s k tw lo f op 4 (by decide) W x hks)
        have HQF := Lib.hid QF
        have QE := fun W x => escapeS R s (k + 1) tw lo f op W x hs hl
        have HQE := Lib.hid QE
        have QR := fun W x => rune R s k tw lo f op W x hs hl
        have HQR := Lib.hid QR
        clear QF QE QR
        by_cases q1 : atL s.data.toList k = 34
        · have e1 : (((s[k]'hl).toNat : Int) == 34) = true := by rw [hB.out]; simpa using q1
          have HQ := Lib.hid q1
          clear q1
          go_wp2
          go_quiet (fail)
          go_wp2
          go_quiet (fail)
          go_wp2
          go_ret
          have e := strN_quote (lo := lo) hll HQ.out
          exact .inl ⟨by rw [hV.out, e]; omega, by rw [hV.out, e]; exact ⟨rfl, hR.out.drewN _, grown_drewN hG.out _⟩⟩
        · have e1 : (((s[k]'hl).toNat : Int) == 34) = false := by rw [hB.out]; simpa using q1
          have HQ1 := Lib.hid q1
          clear q1
          by_cases q2 : atL s.data.toList k = 92
          · have e2 : (((s[k]'hl).toNat : Int) == 92) = true := by rw [hB.out]; simpa using q2
            have hst : stepN lo s.data.toList k = escN lo s.data.toList (k + 1) := by unfold stepN; rw [if_pos q2]
            have HST := Lib.hid hst
            clear q2 hst
            go_wp2
            go_quiet (fail)
            go_wp2
            go_quiet (fail)
            go_wp2_with fail
            refine (HQE.out _ ((hR.out.drewN _).inc)).mono ?_
            rintro e w2 (⟨ok2, rfl, h2, g2⟩ | ⟨ok2, rfl, ⟨k2, f2, le2, hk2, n2, h2⟩, g2⟩)
            · have H2 := Lib.hid h2
              have G2 := Lib.hid (grown_trans (grown_set (grown_drewN hG.out _) 1 (.int .i64 ((k : Int) + 1))) g2)
              have hsn : ¬ stepN lo s.data.toList k = 0 := by rw [HST.out]; exact ok2
              have hr := escN_range ok2
              rw [size_list] at hr
              have hvv : v = strN lo s.data.toList (escN lo s.data.toList (k + 1)) := by rw [hV.out, strN_step hll HQ1.out hsn, HST.out]
              have HVV := Lib.hid hvv
              clear h2 g2 ok2 hsn hvv
              generalize escN lo s.data.toList (k + 1) = k3 at H2 HVV hr
              go_wp2
              go_roundg (s.size - k3)
              case measure => omega
              case rel => exact ⟨k3, rfl, by omega, by omega, rfl, H2, G2, HVV⟩
            · have H2 := Lib.hid h2
              have G2 := Lib.hid (grown_trans (grown_set (grown_drewN hG.out _) 1 (.int .i64 ((k : Int) + 1))) g2)
              have hvv : v = 0 := by rw [hV.out]; exact strN_fail hll HQ1.out (by rw [HST.out]; exact Classical.byContradiction fun q => ok2 q)
              have HVV := Lib.hid hvv
              clear h2 g2 ok2 hvv
              go_wp2
              go_ret
              exact .inr ⟨fun q => q HVV.out, rfl, ⟨k2, f2, by omega, hk2, n2, H2.out⟩, G2.out⟩
          · have e2 : (((s[k]'hl).toNat : Int) == 92) = false := by rw [hB.out]; simpa using q2
            have HQ2 := Lib.hid q2
            clear q2
            by_cases q3 : atL s.data.toList k < 32
            · have e3 : decide (((s[k]'hl).toNat : Int) < 32) = true := by rw [hB.out]; simpa using q3
              have hst : stepN lo s.data.toList k = 0 := by unfold stepN; rw [if_neg HQ2.out, if_pos q3]
              have hvv : v = 0 := by rw [hV.out]; exact strN_fail hll HQ1.out hst
              have HVV := Lib.hid hvv
              clear q3 hst hvv
              go_wp2
              go_quiet (fail)
              go_wp2
              go_quiet (fail)
              go_wp2_with fail
              refine (HQF.out _ (hR.out.drewN _)).mono ?_
              rintro e w2 ⟨rfl, ⟨k2, f2, le2, hk2, n2, h2⟩, g2⟩
              have H2 := Lib.hid h2
              have G2 := Lib.hid (grown_trans (grown_drewN hG.out _) g2)
              clear h2 g2
              go_wp2
              go_ret
              exact .inr ⟨fun q => q HVV.out, rfl, ⟨k2, f2, by omega, hk2, n2, H2.out⟩, G2.out⟩
            · have e3 : decide (((s[k]'hl).toNat : Int) < 32) = false := by rw [hB.out]; simpa using q3
              have HQ3 := Lib.hid q3
              clear q3
              by_cases q4 : atL s.data.toList k < 128
              · have e4 : decide (((s[k]'hl).toNat : Int) < 128) = true := by rw [hB.out]; simpa using q4
                have hst : stepN lo s.data.toList k = k + 1 := by unfold stepN; rw [if_neg HQ2.out, if_neg HQ3.out, if_pos (Or.inl q4)]
                have hvv : v = strN lo s.data.toList (k + 1) := by rw [hV.out, strN_step hll HQ1.out (by rw [hst]; omega), hst]
                have HVV := Lib.hid hvv
                clear q4 hst hvv
                go_wp2
                go_quiet (fail)
                go_wp2
                go_quiet (fail)
                go_wp2
                go_roundg (s.size - (k + 1))
                case measure => omega
                case rel => exact ⟨k + 1, rfl, by omega, by omega, rfl, Lib.hid (hR.out.drewN _).inc, Lib.hid (grown_set (grown_drewN hG.out _) _ _), HVV⟩
              · have e4 : decide (((s[k]'hl).toNat : Int) < 128) = false := by rw [hB.out]; simpa using q4
                have HQ4 := Lib.hid q4
                clear q4
                cases lo
                · have hst : stepN false s.data.toList k = if rlL (s.data.toList.drop k) = 0 then 0 else k + decW (s.data.toList.drop k) := by unfold stepN; rw [if_neg HQ2.out, if_neg HQ3.out, if_neg (by intro q; rcases q with q | q; exact HQ4.out q; cases q)]
                  have HST := Lib.hid hst
                  clear hst
                  go_wp2
                  go_quiet (fail)
                  go_wp2
                  go_quiet (fail)
                  go_wp2_with fail
                  refine (HQR.out _ (hR.out.drewN _) (by have := HQ4.out; omega)).mono ?_
                  rintro e w2 ⟨p1, p2⟩
                  by_cases q5 : rlL (s.data.toList.drop k) = 0
                  · obtain ⟨rfl, ⟨k2, f2, le2, hk2, n2, h2⟩, g2⟩ := p2 q5
                    have H2 := Lib.hid h2
                    have G2 := Lib.hid (grown_trans (grown_drewN hG.out _) g2)
                    have hvv : v = 0 := by rw [hV.out]; exact strN_fail hll HQ1.out (by rw [HST.out, if_pos q5])
                    have HVV := Lib.hid hvv
                    clear h2 g2 hvv p1 p2 q5
                    go_wp2
                    go_ret
                    exact .inr ⟨fun q => q HVV.out, rfl, ⟨k2, f2, by omega, hk2, n2, H2.out⟩, G2.out⟩
                  · obtain ⟨rfl, h2, g2⟩ := p1 q5
                    have H2 := Lib.hid h2
                    have G2 := Lib.hid (grown_trans (grown_drewN hG.out _) g2)
                    have hst : stepN false s.data.toList k = k + decW (s.data.toList.drop k) := by rw [HST.out, if_neg q5]
                    have hw := decW_range (s.data.toList.drop k) (by rw [List.length_drop]; omega)
                    rw [List.length_drop, size_list] at hw
                    have hvv : v = strN false s.data.toList (k + decW (s.data.toList.drop k)) := by rw [hV.out, strN_step hll HQ1.out (by rw [hst]; omega), hst]
                    have HVV := Lib.hid hvv
                    clear h2 g2 hvv p1 p2 q5 hst HST
                    generalize decW (s.data.toList.drop k) = d at H2 HVV hw
                    go_wp2
                    go_roundg (s.size - (k + d))
                    case measure => omega
                    case rel => exact ⟨k + d, rfl, by omega, by omega, rfl, H2, G2, HVV⟩
                · have hst : stepN true s.data.toList k = k + 1 := by unfold stepN; rw [if_neg HQ2.out, if_neg HQ3.out, if_pos (Or.inr rfl)]
                  have hvv : v = strN true s.data.toList (k + 1) := by rw [hV.out, strN_step hll HQ1.out (by rw [hst]; omega), hst]
                  have HVV := Lib.hid hvv
                  clear hst hvv
                  go_wp2
                  go_quiet (fail)
                  go_wp2
                  go_quiet (fail)
                  go_wp2
                  go_roundg (s.size - (k + 1))
                  case measure => omega
                  case rel => exact ⟨k + 1, rfl, by omega, by omega, rfl, Lib.hid (hR.out.drewN _).inc, Lib.hid (grown_set (grown_drewN hG.out _) _ _), HVV⟩
      · skip
        have hvv : v = 0 := by rw [hV.out]; exact strN_end (by rw [size_list]; exact hl)
        have HVV := Lib.hid hvv
        have QF := fun W x => (failNo R s k tw lo f op 4 (by decide) W x hks)
        have HQF := Lib.hid QF
        have hnl : s.size ≤ k := by omega
        clear hvv QF
        go_wp2
        go_quiet (fail)
        go_wp2_with fail
        refine (HQF.out _ (hR.out.drewN _)).mono ?_
        rintro e w2 ⟨rfl, ⟨k2, f2, le2, hk2, n2, h2⟩, g2⟩
        have H2 := Lib.hid h2
        have G2 := Lib.hid (grown_trans (grown_drewN hG.out _) g2)
        clear h2 g2
        go_wp2
        go_ret
        exact .inr ⟨fun q => q HVV.out, rfl, ⟨k2, f2, by omega, hk2, n2, H2.out⟩, G2.out⟩
  · have H1 := Lib.hid h1
    have G1 := Lib.hid g1
    have hV : v = 0 := by rw [HN.out, if_neg ok1]
    have HV := Lib.hid hV
    clear h1 g1 ok1 HN HA' hV
    go_wp2
    go_ret
    exact .inr ⟨fun q => q HV.out, rfl, ⟨k1, _, le1, hk1, n1, H1.out⟩, G1.out⟩
end Go.Proofs.YtldcoaigecnpfaaDoor
namespace Go.Proofs.YtldcoaigecnpfaaDoor
open Go.RowKit
theorem atLd (m : List UInt8) (k j : Nat) : atL (m.drop k) j = atL m (k + j) := by
  rw [natL_at, natL_at, natL_drop]
theorem atL_take (m : List UInt8) (e j : Nat) (h : j < e) : atL (m.take e) j = atL m j := by
  unfold atL
  rw [List.getD_eq_getElem?_getD, List.getD_eq_getElem?_getD, List.getElem?_take, if_pos h]
theorem atL_none (m : List UInt8) (j : Nat) (h : m.length ≤ j) : atL m j = 0 := by
  unfold atL
  rw [List.getD_eq_getElem?_getD, List.getElem?_eq_none h]; rfl
theorem seePat (m : List UInt8) (j : Nat) : seeP m j = atL m j := by
  unfold seeP
  split
  · rfl
  · rw [atL_none _ _ (by omega)]
theorem hexAt_at (m : List UInt8) (j : Nat) : hexAt m j = hx (atL m j) := by unfold hexAt; rw [seePat]; rfl
/-- A text cut ahead of a quotation mark has the same character at its head. -/
theorem rl_cut (l : List UInt8) (n : Nat) (h0 : 0 < n) (hn : n < l.length) (h34 : atL l n = 34) : rlL (l.take n) = rlL l := by
  have hlen : (l.take n).length = n := by rw [List.length_take]; omega
  unfold rlL
  rw [hlen]
  have e0 : atL (l.take n) 0 = atL l 0 := atL_take _ _ _ h0
  rw [e0]
  have c : n = 1 ∨ n = 2 ∨ n = 3 ∨ 4 ≤ n := by omega
  rcases c with rfl | rfl | rfl | c
  · generalize atL (l.take 1) 1 = y1
    generalize atL (l.take 1) 2 = y2
    generalize atL (l.take 1) 3 = y3
    rw [h34]
    generalize atL l 0 = x0
    generalize atL l 2 = x2
    generalize atL l 3 = x3
    unfold rl; (repeat' split) <;> omega
  · rw [atL_take l 2 1 (by omega)]
    generalize atL (l.take 2) 2 = y2
    generalize atL (l.take 2) 3 = y3
    rw [h34]
    generalize atL l 0 = x0
    generalize atL l 1 = x1
    generalize atL l 3 = x3
    unfold rl; (repeat' split) <;> omega
  · rw [atL_take l 3 1 (by omega), atL_take l 3 2 (by omega)]
    generalize atL (l.take 3) 3 = y3
    rw [h34]
    generalize atL l 0 = x0
    generalize atL l 1 = x1
    generalize atL l 2 = x2
    unfold rl; (repeat' split) <;> omega
  · rw [atL_take l n 1 (by omega), atL_take l n 2 (by omega), atL_take l n 3 (by omega)]
    generalize atL l 0 = x0
    generalize atL l 1 = x1
    generalize atL l 2 = x2
    generalize atL l 3 = x3
    unfold rl; (repeat' split) <;> omega
theorem decW_cut (l : List UInt8) (n : Nat) (h0 : 0 < n) (hn : n < l.length) (h34 : atL l n = 34) : decW (l.take n) = decW l := by
  unfold decW; rw [rl_cut l n h0 hn h34]
/-- The bytes behind the first one of a character. -/
theorem rl_cont (l : List UInt8) (h : 0 < l.length) (j : Nat) (h1 : 1 ≤ j) (h2 : j < decW l) : 128 ≤ atL l j := by
  have hd : decW l = if rlL l = 0 then 1 else (rlL l).toNat := rfl
  have hr : rlL l = rl l.length (atL l 0) (atL l 1) (atL l 2) (atL l 3) := rfl
  have hw := decW_range l h
  have c : j = 1 ∨ j = 2 ∨ j = 3 := by omega
  have hlt : (j : Int) < rlL l := by
    rw [hd] at h2
    split at h2
    · omega
    · omega
  rw [hr] at hlt
  clear hd hr
  generalize atL l 0 = x0 at *
  rcases c with rfl | rfl | rfl
  · generalize atL l 1 = x1 at *
    generalize atL l 2 = x2 at *
    generalize atL l 3 = x3 at *
    unfold rl at hlt; (repeat' split at hlt) <;> omega
  · generalize atL l 1 = x1 at *
    generalize atL l 2 = x2 at *
    generalize atL l 3 = x3 at *
    unfold rl at hlt; (repeat' split at hlt) <;> omega
  · generalize atL l 1 = x1 at *
    generalize atL l 2 = x2 at *
    generalize atL l 3 = x3 at *
    unfold rl at hlt; (repeat' split at hlt) <;> omega
theorem stepN_92 {lo : Bool} {l : List UInt8} {k : Nat} (h : atL l k = 92) : stepN lo l k = escN lo l (k + 1) := by unfold stepN; rw [if_pos h]
theorem stepN_low {lo : Bool} {l : List UInt8} {k : Nat} (h : ¬ atL l k = 92) (h1 : atL l k < 32) : stepN lo l k = 0 := by unfold stepN; rw [if_neg h, if_pos h1]
theorem stepN_one {lo : Bool} {l : List UInt8} {k : Nat} (h : ¬ atL l k = 92) (h1 : ¬ atL l k < 32) (h2 : atL l k < 128 ∨ lo = true) : stepN lo l k = k + 1 := by unfold stepN; rw [if_neg h, if_neg h1, if_pos h2]
theorem stepN_many {lo : Bool} {l : List UInt8} {k : Nat} (h : ¬ atL l k = 92) (h1 : ¬ atL l k < 32) (h2 : ¬ (atL l k < 128 ∨ lo = true)) : stepN lo l k = if rlL (l.drop k) = 0 then 0 else k + decW (l.drop k) := by unfold stepN; rw [if_neg h, if_neg h1, if_neg h2]
/-- What strN's end tells of a place ahead of it. -/
theorem str_at {lo : Bool} {T : List UInt8} {k e : Nat} (hk : strN lo T k = e) (hke : k < e) (he : e < T.length) : ¬ atL T k = 34 ∧ ¬ stepN lo T k = 0 ∧ strN lo T (stepN lo T k) = e ∧ stepN lo T k ≤ e := by
  have hkT : k < T.length := by omega
  have a : ¬ atL T k = 34 := fun q => by rw [strN_quote hkT q] at hk; omega
  have b : ¬ stepN lo T k = 0 := fun q => by rw [strN_fail hkT a q] at hk; omega
  have c := strN_step hkT a b
  have d : strN lo T (stepN lo T k) = e := by rw [← c]; exact hk
  have r := stepN_range hkT b
  have f := strN_range (lo := lo) (l := T) T.length (stepN lo T k) (by omega) (by omega) (by rw [d]; omega)
  exact ⟨a, b, d, by rw [d] at f; exact f.1⟩
theorem loose_more {T : List UInt8} {e k : Nat} (he : e < T.length) (d : Nat) (hc : ∀ j, 1 ≤ j → j < d → 128 ≤ atL T (k + j)) (h34 : atL T e = 34) : ∀ j, 1 ≤ j → j ≤ d → k + 1 ≤ e → strN true T (k + 1) = e → k + j ≤ e ∧ strN true T (k + j) = e
  | 0, h, _, _, _ => absurd h (by omega)
  | 1, _, _, h1, h2 => ⟨h1, h2⟩
  | j + 2, _, hj, h1, h2 => by
    obtain ⟨ih1, ih2⟩ := loose_more he d hc h34 (j + 1) (by omega) (by omega) h1 h2
    have hb := hc (j + 1) (by omega) (by omega)
    have hne : k + (j + 1) < e := by
      rcases Nat.lt_or_ge (k + (j + 1)) e with q | q
      · exact q
      · have : k + (j + 1) = e := by omega
        rw [this, h34] at hb; omega
    obtain ⟨_, _, c, d'⟩ := str_at ih2 hne he
    rw [stepN_one (by omega) (by omega) (Or.inr rfl)] at c d'
    exact ⟨d', c⟩
theorem hexOk_of {T : List UInt8} {k e : Nat} (h : k + 6 ≤ e) (hu : 0 ≤ hexAt T (k + 2) ∧ 0 ≤ hexAt T (k + 3) ∧ 0 ≤ hexAt T (k + 4) ∧ 0 ≤ hexAt T (k + 5)) : hexOk ((T.take e).drop k) := by
  unfold hexOk
  simp only [hexAt_at] at hu
  rw [atLd, atLd, atLd, atLd, atL_take _ _ _ (by omega), atL_take _ _ _ (by omega), atL_take _ _ _ (by omega), atL_take _ _ _ (by omega)]
  exact hu
theorem uV_of {T : List UInt8} {k e : Nat} (he : e ≤ T.length) (h : k + 6 ≤ e) (h0 : atL T k = 92) (h1 : atL T (k + 1) = 117) (hu : 0 ≤ hexAt T (k + 2) ∧ 0 ≤ hexAt T (k + 3) ∧ 0 ≤ hexAt T (k + 4) ∧ 0 ≤ hexAt T (k + 5)) :
    uV ((T.take e).drop k) = ((hexAt T (k + 2) * 16 + hexAt T (k + 3)) * 16 + hexAt T (k + 4)) * 16 + hexAt T (k + 5) := by
  have hh := hexOk_of (T := T) h hu
  unfold uV
  rw [if_pos ⟨by rw [List.length_drop, List.length_take]; omega, by rw [atLd, atL_take _ _ _ (by omega)]; exact h0, by rw [atLd, atL_take _ _ _ (by omega)]; exact h1, hh⟩]
  unfold hexV
  rw [atLd, atLd, atLd, atLd, atL_take _ _ _ (by omega), atL_take _ _ _ (by omega), atL_take _ _ _ (by omega), atL_take _ _ _ (by omega)]
  simp only [hexAt_at]
theorem uV_back {T : List UInt8} {k e : Nat} (he : e ≤ T.length) (h : 0 ≤ uV ((T.take e).drop k)) : k + 6 ≤ e ∧ atL T k = 92 ∧ atL T (k + 1) = 117 ∧ 0 ≤ hexAt T (k + 2) ∧ 0 ≤ hexAt T (k + 3) ∧ 0 ≤ hexAt T (k + 4) ∧ 0 ≤ hexAt T (k + 5) := by
  obtain ⟨a, b, c, d⟩ := uV_ok h
  rw [List.length_drop, List.length_take] at a
  have hk6 : k + 6 ≤ e := by omega
  unfold hexOk at d
  rw [atLd, atL_take _ _ _ (by omega)] at b c
  rw [atLd, atLd, atLd, atLd, atL_take _ _ _ (by omega), atL_take _ _ _ (by omega), atL_take _ _ _ (by omega), atL_take _ _ _ (by omega)] at d
  simp only [hexAt_at]
  exact ⟨hk6, b, c, d⟩
/-- One piece. -/
theorem str_piece {lo : Bool} {T : List UInt8} {k e : Nat} (hk : strN lo T k = e) (hke : k < e) (he : e < T.length) (h34 : atL T e = 34) :
    okPc ((T.take e).drop k) = true ∧ (lo = false → neatC ((T.take e).drop k) = true) ∧ strN lo T (k + dcW ((T.take e).drop k)) = e ∧ k + dcW ((T.take e).drop k) ≤ e := by
  obtain ⟨a34, hst, hnx, hle⟩ := str_at hk hke he
  have hl : ((T.take e).drop k).length = e - k := by rw [List.length_drop, List.length_take]; omega
  have hat : ∀ j, k + j < e → atL ((T.take e).drop k) j = atL T (k + j) := fun j hj => by rw [atLd, atL_take _ _ _ hj]
  have h0 : (natL ((T.take e).drop k) 0 : Int) = atL T k := by rw [← natL_at, hat 0 (by omega)]; rfl
  have hx0 := hexAt_range T (k + 2)
  have hx1 := hexAt_range T (k + 3)
  have hx2 := hexAt_range T (k + 4)
  have hx3 := hexAt_range T (k + 5)
  by_cases c92 : atL T k = 92
  · have n92 : natL ((T.take e).drop k) 0 = 92 := by omega
    have hesc : stepN lo T k = escN lo T (k + 1) := stepN_92 c92
    rw [hesc] at hst hnx hle
    have hk2 : k + 2 ≤ e := by
      have := escN_range hst
      omega
    have h1 : (natL ((T.take e).drop k) 1 : Int) = atL T (k + 1) := by rw [← natL_at, hat 1 (by omega)]
    have hs1 : seeP T (k + 1) = atL T (k + 1) := seePat _ _
    unfold okPc neatC dcW escW
    rw [if_pos n92, if_pos n92, if_pos n92]
    by_cases h8 : esc8 (atL T (k + 1))
    · have hE : escN lo T (k + 1) = k + 2 := by unfold escN; rw [hs1, if_pos h8]
      rw [hE] at hnx hle
      unfold esc8 at h8
      rw [if_neg (by omega)]
      refine ⟨by rw [decide_eq_true_iff, hl]; omega, fun _ => ?_, hnx, hle⟩
      rw [Bool.not_eq_true', decide_eq_false_iff_not]; omega
    · by_cases h9 : atL T (k + 1) = 117
      · have n117 : natL ((T.take e).drop k) 1 = 117 := by omega
        have hE := escN_u lo T (k + 1) (by rw [hs1]; exact h9)
        rw [if_pos n117]
        by_cases u : unitAt lo false T (k + 1 + 1)
        · rw [if_pos u] at hE
          obtain ⟨hu, _, hu2⟩ := u
          rw [show k + 1 + 1 = k + 2 by omega, show k + 2 + 1 = k + 3 by omega, show k + 2 + 2 = k + 4 by omega, show k + 2 + 3 = k + 5 by omega] at hu
          rw [show k + 1 + 1 = k + 2 by omega, show k + 2 + 1 = k + 3 by omega] at hu2
          by_cases hf : halfAt lo false T (k + 1 + 1) = true
          · rw [if_pos hf] at hE
            unfold halfAt halfB at hf
            rw [show k + 1 + 1 = k + 2 by omega, show k + 2 + 1 = k + 3 by omega] at hf
            simp only [Bool.and_eq_true, Bool.not_eq_true', decide_eq_true_eq] at hf
            obtain ⟨⟨hlo, _⟩, hh1, hh2⟩ := hf
            have hu3 := hu2 hlo rfl hh1
            by_cases a : seeP T (k + 1 + 5) = 92 ∧ seeP T (k + 1 + 6) = 117 ∧ unitAt lo true T (k + 1 + 7)
            · rw [if_pos a] at hE
              rw [hE] at hnx hle
              obtain ⟨a1, a2, a3, a4, _⟩ := a
              rw [seePat] at a1 a2
              have a4' := a4 hlo rfl
              have a3' : 0 ≤ hexAt T (k + 6 + 2) ∧ 0 ≤ hexAt T (k + 6 + 3) ∧ 0 ≤ hexAt T (k + 6 + 4) ∧ 0 ≤ hexAt T (k + 6 + 5) := a3
              have hv := uV_of (T := T) (k := k) (e := e) (by omega) (by omega) c92 h9 hu
              have hv2 := uV_of (T := T) (k := k + 6) (e := e) (by omega) (by omega) a1 a2 a3
              have hd6 : ((T.take e).drop k).drop 6 = (T.take e).drop (k + 6) := by rw [List.drop_drop]
              have r2 := hexAt_range T (k + 6 + 4)
              have r3 := hexAt_range T (k + 6 + 5)
              have hp : pairOk (uV ((T.take e).drop k)) (uV (((T.take e).drop k).drop 6)) := by
                rw [hd6, hv, hv2]
                unfold pairOk
                have q1 : hexAt T (k + 1 + 7) = hexAt T (k + 6 + 2) := rfl
                have q2 : hexAt T (k + 1 + 7 + 1) = hexAt T (k + 6 + 3) := rfl
                have q3 := hexAt_range T (k + 6 + 3)
                omega
              unfold uniW
              rw [if_pos hp]
              refine ⟨?_, fun _ => ?_, hnx, hle⟩
              · rw [decide_eq_true_iff, hl]
                refine ⟨by omega, ?_⟩
                have := hp.1
                exact .inr (.inr (.inr (.inr (.inr (.inr (.inr (.inr ⟨n117, by omega⟩)))))))
              · rw [Bool.not_eq_true', decide_eq_false_iff_not]; exact fun q => q.2.2 hp
            · rw [if_neg a] at hE; exact absurd hE hst
          · rw [if_neg hf] at hE
            rw [hE] at hnx hle
            have hv := uV_of (T := T) (k := k) (e := e) (by omega) (by omega) c92 h9 hu
            have hok : decide (2 ≤ ((T.take e).drop k).length ∧ (natL ((T.take e).drop k) 1 = 34 ∨ natL ((T.take e).drop k) 1 = 92 ∨ natL ((T.take e).drop k) 1 = 47 ∨ natL ((T.take e).drop k) 1 = 98 ∨ natL ((T.take e).drop k) 1 = 102 ∨ natL ((T.take e).drop k) 1 = 110 ∨ natL ((T.take e).drop k) 1 = 114 ∨ natL ((T.take e).drop k) 1 = 116 ∨ (natL ((T.take e).drop k) 1 = 117 ∧ 0 ≤ uV ((T.take e).drop k)))) = true := by
              rw [decide_eq_true_iff, hl]
              exact ⟨by omega, .inr (.inr (.inr (.inr (.inr (.inr (.inr (.inr ⟨n117, by rw [hv]; omega⟩)))))))⟩
            have hd6 : ((T.take e).drop k).drop 6 = (T.take e).drop (k + 6) := by rw [List.drop_drop]
            cases lo with
            | false =>
              have hn : ¬ halfU (uV ((T.take e).drop k)) := by
                have hb := hu2 rfl rfl
                unfold halfAt halfB at hf
                rw [show k + 1 + 1 = k + 2 by omega, show k + 2 + 1 = k + 3 by omega] at hf
                simp only [Bool.not_false, Bool.true_and, decide_eq_true_eq] at hf
                rw [hv]; unfold halfU; omega
              have hnp : ¬ pairOk (uV ((T.take e).drop k)) (uV (((T.take e).drop k).drop 6)) := fun q => hn ⟨q.1, by have := q.2.1; omega⟩
              unfold uniW
              rw [if_neg hnp]
              refine ⟨hok, fun _ => ?_, hnx, hle⟩
              rw [Bool.not_eq_true', decide_eq_false_iff_not]; exact fun q => hn q.2.1
            | true =>
              by_cases hp : pairOk (uV ((T.take e).drop k)) (uV (((T.take e).drop k).drop 6))
              · unfold uniW
                rw [if_pos hp]
                refine ⟨hok, (fun q => by cases q), ?_⟩
                rw [hd6] at hp
                obtain ⟨b1, b2, b3, b4⟩ := uV_back (T := T) (k := k + 6) (e := e) (by omega) (by have := hp.2.2.1; omega)
                have hs6 := str_at (lo := true) (k := k + 6) hnx (by omega) he
                have hE6 : stepN true T (k + 6) = k + 12 := by
                  rw [stepN_92 b2, escN_u true T (k + 6 + 1) (by rw [seePat]; exact b3), if_pos ⟨b4, (fun q => by cases q), (fun q => by cases q)⟩, if_neg (by simp [halfAt, halfB])]
                rw [hE6] at hs6
                exact ⟨hs6.2.2.1, hs6.2.2.2⟩
              · unfold uniW
                rw [if_neg hp]
                exact ⟨hok, (fun q => by cases q), hnx, hle⟩
        · rw [if_neg u] at hE; exact absurd hE hst
      · exfalso; apply hst; unfold escN; rw [hs1, if_neg h8, if_neg h9]
  · have n92 : ¬ natL ((T.take e).drop k) 0 = 92 := by omega
    have hpos : 0 < ((T.take e).drop k).length := by rw [hl]; omega
    have hcut : decW ((T.take e).drop k) = decW (T.drop k) ∧ rlL ((T.take e).drop k) = rlL (T.drop k) := by
      have e1 : (T.take e).drop k = (T.drop k).take (e - k) := by rw [List.drop_take]
      have e2 : atL (T.drop k) (e - k) = 34 := by rw [atLd, show k + (e - k) = e by omega]; exact h34
      rw [e1]
      exact ⟨decW_cut _ _ (by omega) (by rw [List.length_drop]; omega) e2, rl_cut _ _ (by omega) (by rw [List.length_drop]; omega) e2⟩
    unfold okPc neatC dcW
    rw [if_neg n92, if_neg n92, if_neg n92]
    by_cases c32 : atL T k < 32
    · exact absurd (stepN_low c92 c32) hst
    · refine ⟨by rw [decide_eq_true_iff]; omega, ?_⟩
      by_cases c128 : atL T k < 128
      · have hd := decW_ascii ((T.take e).drop k) (by omega)
        rw [stepN_one c92 c32 (Or.inl c128)] at hnx hle
        rw [hd.2, hd.1]
        exact ⟨fun _ => by decide, hnx, hle⟩
      · cases lo with
        | true =>
          rw [stepN_one c92 c32 (Or.inr rfl)] at hnx hle
          refine ⟨(fun q => by cases q), ?_⟩
          have hw := decW_range ((T.take e).drop k) hpos
          have := loose_more he (decW ((T.take e).drop k)) (fun j h1 h2 => by
            have := rl_cont ((T.take e).drop k) hpos j h1 h2
            rw [hat j (by rw [hl] at hw; omega)] at this
            exact this) h34 (decW ((T.take e).drop k)) hw.1 (Nat.le_refl _) hle hnx
          exact ⟨this.2, this.1⟩
        | false =>
          have hm := stepN_many (lo := false) c92 c32 (by rintro (q | q); exact c128 q; cases q)
          by_cases z : rlL (T.drop k) = 0
          · rw [if_pos z] at hm; exact absurd hm hst
          · rw [if_neg z] at hm
            rw [hm] at hnx hle
            rw [hcut.1, hcut.2]
            exact ⟨fun _ => by rw [decide_eq_true_iff]; exact z, hnx, hle⟩
/-- All pieces. -/
theorem str_ok {lo : Bool} {T : List UInt8} {e : Nat} (he : e < T.length) (h34 : atL T e = 34) : ∀ (n k : Nat), e ≤ n + k → k ≤ e → strN lo T k = e → okL ((T.take e).drop k) = true ∧ (lo = false → neatL ((T.take e).drop k) = true)
  | n, k, hn, hke, hk => by
    by_cases q : k = e
    · subst q
      have : (T.take k).drop k = [] := List.drop_of_length_le (by rw [List.length_take]; omega)
      rw [this]; exact ⟨rfl, fun _ => rfl⟩
    · have hke' : k < e := by omega
      obtain ⟨a, b, c, d⟩ := str_piece hk hke' he h34
      have hpos : 0 < ((T.take e).drop k).length := by rw [List.length_drop, List.length_take]; omega
      have hw := dcW_pos _ hpos
      match n, hn with
      | 0, hn => exact absurd hn (by omega)
      | n + 1, hn =>
        have ih := str_ok (lo := lo) he h34 n (k + dcW ((T.take e).drop k)) (by omega) d c
        have ed : ((T.take e).drop k).drop (dcW ((T.take e).drop k)) = (T.take e).drop (k + dcW ((T.take e).drop k)) := by rw [List.drop_drop]
        have e1 : okL ((T.take e).drop k) = (okPc ((T.take e).drop k) && okL (((T.take e).drop k).drop (dcW ((T.take e).drop k)))) := allW_step _ _ _ hpos hw
        have e2 := neatL_step ((T.take e).drop k) hpos
        rw [e1, e2, ed, a, ih.1]
        exact ⟨rfl, fun q => by rw [b q, ih.2 q]; rfl⟩
end Go.Proofs.YtldcoaigecnpfaaDoor
namespace Go.Proofs.YtldcoaigecnpfaaDoor
open Go.RowKit
def upHex (c : Int) : Prop := 65 ≤ c ∧ c ≤ 70
instance (c : Int) : Decidable (upHex c) := by unfold upHex; infer_instance
/-- An escape by digits that is canonical: of a control character that has no short one, in lower case. -/
def canU (l : List UInt8) : Prop := uV l < 32 ∧ ¬ uV l = 8 ∧ ¬ uV l = 12 ∧ ¬ uV l = 10 ∧ ¬ uV l = 13 ∧ ¬ uV l = 9 ∧ ¬ upHex (atL l 2) ∧ ¬ upHex (atL l 3) ∧ ¬ upHex (atL l 4) ∧ ¬ upHex (atL l 5)
instance (l : List UInt8) : Decidable (canU l) := by unfold canU; infer_instance
/-- Whether the piece at the head is written in the canonical way. -/
def canC (l : List UInt8) : Bool := if natL l 0 = 92 then decide (¬ natL l 1 = 47 ∧ (natL l 1 = 117 → canU l)) else decide (¬ rlL l = 0)
def canL (l : List UInt8) : Bool := allW dcW canC 0 l
theorem canL_step (l : List UInt8) (h : 0 < l.length) : canL l = (canC l && canL (l.drop (dcW l))) := allW_step _ _ _ h (dcW_pos l h)
/-- Where the reading stands: M is the text up to its last quotation mark. -/
structure CsInv (lo : Bool) (M : List UInt8) (k : Nat) (cn : Bool) : Prop where
  le : k ≤ M.length
  ok : okL (M.drop k) = true
  neat : lo = false → neatL (M.drop k) = true
  can : cn = true → canL (M.drop k) = true → canL (M.drop 1) = true
theorem CsInv.pos {lo : Bool} {M : List UInt8} {k : Nat} {cn : Bool} (_h : CsInv lo M k cn) (hk : k < M.length) : 0 < (M.drop k).length := by rw [List.length_drop]; omega
theorem CsInv.okc {lo : Bool} {M : List UInt8} {k : Nat} {cn : Bool} (h : CsInv lo M k cn) (hk : k < M.length) : okPc (M.drop k) = true := (okL_step h.ok (h.pos hk)).1
theorem CsInv.wle {lo : Bool} {M : List UInt8} {k : Nat} {cn : Bool} (h : CsInv lo M k cn) (hk : k < M.length) : k + dcW (M.drop k) ≤ M.length := by
  have := dcW_le (M.drop k) (h.pos hk) (h.okc hk)
  rw [List.length_drop] at this
  omega
theorem CsInv.neatc {lo : Bool} {M : List UInt8} {k : Nat} {cn : Bool} (h : CsInv lo M k cn) (hk : k < M.length) (hl : lo = false) : neatC (M.drop k) = true := by
  have := h.neat hl
  rw [neatL_step _ (h.pos hk), Bool.and_eq_true] at this
  exact this.1
theorem CsInv.next {lo : Bool} {M : List UInt8} {k : Nat} {cn : Bool} (h : CsInv lo M k cn) (hk : k < M.length) (w : Nat) (hw : dcW (M.drop k) = w) (cn' : Bool) (hc : cn' = true → cn = true ∧ canC (M.drop k) = true) : CsInv lo M (k + w) cn' := by
  subst hw
  refine ⟨h.wle hk, ?_, fun hl => ?_, fun h1 h2 => ?_⟩
  · have := (okL_step h.ok (h.pos hk)).2
    rwa [List.drop_drop] at this
  · have := h.neat hl
    rw [neatL_step _ (h.pos hk), Bool.and_eq_true, List.drop_drop] at this
    exact this.2
  · obtain ⟨a, b⟩ := hc h1
    refine h.can a ?_
    rw [canL_step _ (h.pos hk), b, List.drop_drop, h2]; rfl
/-- The first of two halves alone: the second one is a piece of its own. -/
theorem CsInv.half {M : List UInt8} {k : Nat} {cn : Bool} (h : CsInv true M k cn) (hk : k < M.length) (h0 : natL (M.drop k) 0 = 92) (h1 : natL (M.drop k) 1 = 117) (hp : pairOk (uV (M.drop k)) (uV (M.drop (k + 6)))) : CsInv true M (k + 6) false := by
  have hd : (M.drop k).drop 6 = M.drop (k + 6) := by rw [List.drop_drop]
  have hu : 0 ≤ uV (M.drop (k + 6)) := by have := hp.2.2.1; omega
  obtain ⟨l6, a0, a1, _⟩ := uV_ok hu
  rw [List.length_drop] at l6
  have n0 : natL (M.drop (k + 6)) 0 = 92 := by rw [natL_at] at a0; omega
  have n1 : natL (M.drop (k + 6)) 1 = 117 := by rw [natL_at] at a1; omega
  have hw : dcW (M.drop k) = 12 := by unfold dcW escW uniW; rw [if_pos h0, if_pos h1, hd, if_pos hp]
  have hw2 : dcW (M.drop (k + 6)) = 6 := by
    unfold dcW escW uniW
    rw [if_pos n0, if_pos n1, if_neg (fun q => by have := q.2.1; have := hp.2.2.1; omega)]
  have hok := (okL_step h.ok (h.pos hk)).2
  rw [hw, List.drop_drop] at hok
  have hp2 : 0 < (M.drop (k + 6)).length := by rw [List.length_drop]; omega
  refine ⟨by omega, ?_, fun z => (by cases z), fun z => (by cases z)⟩
  have e : okL (M.drop (k + 6)) = (okPc (M.drop (k + 6)) && okL ((M.drop (k + 6)).drop (dcW (M.drop (k + 6))))) := allW_step _ _ _ hp2 (dcW_pos _ hp2)
  rw [e, hw2, List.drop_drop, show k + 6 + 6 = k + 12 by omega, hok, Bool.and_true]
  unfold okPc
  rw [if_pos n0, decide_eq_true_iff]
  refine ⟨by rw [List.length_drop]; omega, ?_⟩
  have := hu
  omega
theorem CsInv.start {lo : Bool} {T : List UInt8} {e : Nat} (he : e < T.length) (h34 : atL T e = 34) (h1 : 1 ≤ e) (hs : strN lo T 1 = e) : CsInv lo (T.take e) 1 true := by
  have := str_ok (lo := lo) he h34 e 1 (by omega) h1 hs
  exact ⟨by rw [List.length_take]; omega, this.1, this.2, fun _ h => h⟩
theorem CsInv.fin {lo : Bool} {M : List UInt8} {cn : Bool} (h : CsInv lo M M.length cn) : cn = true → canL (M.drop 1) = true := fun q => h.can q (by rw [List.drop_length]; rfl)
end Go.Proofs.YtldcoaigecnpfaaDoor
