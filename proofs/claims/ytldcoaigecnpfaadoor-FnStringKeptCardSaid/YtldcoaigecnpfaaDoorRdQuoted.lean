/- The reference's reader: a string up to its last quotation mark, walked: whether it is one, and the place of that mark. -/
import Derived.Test.YtldcoaigecnpfaaDoorRdStr
import Derived.Deep.LoopGhost
import Derived.Deep.RegionWith
namespace Go.Proofs.YtldcoaigecnpfaaDoor
open Go.RowKit
theorem hexAt_ltL {l : List UInt8} {k : Nat} (h : 0 ≤ hexAt l k) : k < l.length := by
  rcases Nat.lt_or_ge k l.length with q | q
  · exact q
  · exfalso
    have : seeP l k = 0 := by unfold seeP; rw [if_neg (by omega)]
    unfold hexAt at h
    rw [this] at h
    exact absurd h (by decide)
theorem seeP_ltL {l : List UInt8} {k : Nat} (h : ¬ seeP l k = 0) : k < l.length := by
  rcases Nat.lt_or_ge k l.length with q | q
  · exact q
  · exact absurd (by unfold seeP; rw [if_neg (by omega)]) h
theorem escN_range {lo : Bool} {l : List UInt8} {k : Nat} (h : ¬ escN lo l k = 0) : k < escN lo l k ∧ escN lo l k ≤ l.length := by
  unfold escN at h ⊢
  by_cases h8 : esc8 (seeP l k)
  · have := seeP_ltL (l := l) (k := k) (by unfold esc8 at h8; omega)
    rw [if_pos h8]; omega
  · rw [if_neg h8] at h ⊢
    by_cases h9 : seeP l k = 117
    · rw [if_pos h9] at h ⊢
      by_cases u : unitAt lo false l (k + 1)
      · rw [if_pos u] at h ⊢
        by_cases hf : halfAt lo false l (k + 1) = true
        · rw [if_pos hf] at h ⊢
          by_cases a : seeP l (k + 5) = 92 ∧ seeP l (k + 6) = 117 ∧ unitAt lo true l (k + 7)
          · rw [if_pos a]
            have := hexAt_ltL a.2.2.1.2.2.2
            omega
          · rw [if_neg a] at h; exact absurd rfl h
        · rw [if_neg hf]
          have := hexAt_ltL u.1.2.2.2
          omega
      · rw [if_neg u] at h; exact absurd rfl h
    · rw [if_neg h9] at h; exact absurd rfl h
/-- The place behind the character, or the escape, at a place that is no quotation mark; 0 if none stands there. -/
def stepN (lo : Bool) (l : List UInt8) (k : Nat) : Nat :=
  if atL l k = 92 then escN lo l (k + 1)
  else if atL l k < 32 then 0
  else if atL l k < 128 ∨ lo = true then k + 1
  else if rlL (l.drop k) = 0 then 0 else k + decW (l.drop k)
theorem stepN_range {lo : Bool} {l : List UInt8} {k : Nat} (hk : k < l.length) (h : ¬ stepN lo l k = 0) : k < stepN lo l k ∧ stepN lo l k ≤ l.length := by
  unfold stepN at h ⊢
  by_cases a : atL l k = 92
  · rw [if_pos a] at h ⊢
    have := escN_range h
    omega
  · rw [if_neg a] at h ⊢
    by_cases b : atL l k < 32
    · rw [if_pos b] at h; exact absurd rfl h
    · rw [if_neg b] at h ⊢
      by_cases c : atL l k < 128 ∨ lo = true
      · rw [if_pos c]; omega
      · rw [if_neg c] at h ⊢
        by_cases d : rlL (l.drop k) = 0
        · rw [if_pos d] at h; exact absurd rfl h
        · rw [if_neg d]
          have := decW_range (l.drop k) (by rw [List.length_drop]; omega)
          rw [List.length_drop] at this
          omega
def strF (lo : Bool) (l : List UInt8) : Nat → Nat → Nat
  | 0, _ => 0
  | n + 1, k => if k < l.length then (if atL l k = 34 then k else if stepN lo l k = 0 then 0 else strF lo l n (stepN lo l k)) else 0
/-- The place of the last quotation mark of a string whose inner part begins at a place, or 0. -/
def strN (lo : Bool) (l : List UInt8) (k : Nat) : Nat := strF lo l (l.length + 1 - k) k
theorem strF_eq (lo : Bool) (l : List UInt8) : ∀ (n m k : Nat), l.length < n + k → l.length < m + k → strF lo l n k = strF lo l m k
  | 0, 0, _, _, _ => rfl
  | 0, m + 1, k, hn, _ => by rw [strF, strF, if_neg (by omega)]
  | n + 1, 0, k, _, hm => by rw [strF, strF, if_neg (by omega)]
  | n + 1, m + 1, k, hn, hm => by
    rw [strF, strF]
    by_cases hk : k < l.length
    · rw [if_pos hk, if_pos hk]
      by_cases a : atL l k = 34
      · rw [if_pos a, if_pos a]
      · rw [if_neg a, if_neg a]
        by_cases b : stepN lo l k = 0
        · rw [if_pos b, if_pos b]
        · rw [if_neg b, if_neg b]
          have := stepN_range hk b
          exact strF_eq lo l n m _ (by omega) (by omega)
    · rw [if_neg hk, if_neg hk]
theorem strN_step {lo : Bool} {l : List UInt8} {k : Nat} (hk : k < l.length) (h : ¬ atL l k = 34) (h0 : ¬ stepN lo l k = 0) : strN lo l k = strN lo l (stepN lo l k) := by
  have := stepN_range hk h0
  unfold strN
  rw [show l.length + 1 - k = (l.length - k) + 1 by omega, strF, if_pos hk, if_neg h, if_neg h0]
  exact strF_eq lo l _ _ _ (by omega) (by omega)
theorem strN_fail {lo : Bool} {l : List UInt8} {k : Nat} (hk : k < l.length) (h : ¬ atL l k = 34) (h0 : stepN lo l k = 0) : strN lo l k = 0 := by
  unfold strN
  rw [show l.length + 1 - k = (l.length - k) + 1 by omega, strF, if_pos hk, if_neg h, if_pos h0]
theorem strN_quote {lo : Bool} {l : List UInt8} {k : Nat} (hk : k < l.length) (h : atL l k = 34) : strN lo l k = k := by
  unfold strN
  rw [show l.length + 1 - k = (l.length - k) + 1 by omega, strF, if_pos hk, if_pos h]
theorem strN_end {lo : Bool} {l : List UInt8} {k : Nat} (hk : ¬ k < l.length) : strN lo l k = 0 := by
  unfold strN
  generalize l.length + 1 - k = n
  cases n with
  | zero => rfl
  | succ n => rw [strF, if_neg hk]
theorem strN_range {lo : Bool} {l : List UInt8} : ∀ (n k : Nat), l.length ≤ n + k → 1 ≤ k → ¬ strN lo l k = 0 → k ≤ strN lo l k ∧ strN lo l k < l.length ∧ atL l (strN lo l k) = 34
  | 0, k, hn, _, h => absurd (strN_end (by omega)) h
  | n + 1, k, hn, h1, h => by
    by_cases hk : k < l.length
    · by_cases a : atL l k = 34
      · rw [strN_quote hk a]; exact ⟨Nat.le_refl _, hk, a⟩
      · by_cases b : stepN lo l k = 0
        · exact absurd (strN_fail hk a b) h
        · rw [strN_step hk a b] at h ⊢
          have r := stepN_range hk b
          have := strN_range n (stepN lo l k) (by omega) (by omega) h
          exact ⟨by omega, this.2⟩
    · exact absurd (strN_end hk) h
/-- The place of the last quotation mark of a string that begins at a place, or 0. -/
def strQ (lo : Bool) (l : List UInt8) (k : Nat) : Nat := if seeP l k = 34 then strN lo l (k + 1) else 0
theorem strQ_range {lo : Bool} {l : List UInt8} {k : Nat} (h : ¬ strQ lo l k = 0) : seeP l k = 34 ∧ k < strQ lo l k ∧ strQ lo l k < l.length ∧ atL l (strQ lo l k) = 34 := by
  unfold strQ at h ⊢
  by_cases a : seeP l k = 34
  · rw [if_pos a] at h ⊢
    have := strN_range l.length (k + 1) (by omega) (by omega) h
    exact ⟨a, by omega, this.2⟩
  · rw [if_neg a] at h; exact absurd rfl h
set_option maxRecDepth 100000 in
set_option maxHeartbeats 4000000 in
theorem quotedS (R : Nat) (s : ByteArray) (k0 : Nat) (tw lo : Bool) (f : Int) (op : Bool) (w : World) (h : RdAt w R s k0 tw lo f op) (hs : s.size ≤ 140737488355328) (hk0 : k0 ≤ s.size) :
    Calls Tryd.prog 31 #[.pointer (some ⟨R, 0, none⟩)] w (Rd (¬ strQ lo s.data.toList k0 = 0) (strQ lo s.data.toList k0) R s k0 tw lo f op w) := by
  have HN : Hid (strQ lo s.data.toList k0 = if seeP s.data.toList k0 = 34 then strN lo s.data.toList (k0 + 1) else 0) := Lib.hid rfl
  have HA := need1 R s k0 tw lo f op 34 (by decide) w h hs hk0
  have HA' := Lib.hid HA
  clear HA h
  generalize hv : strQ lo s.data.toList k0 = v at HN
  clear hv
  go_enter Tryd.func31, Tryd.ntmps31
  go_wp2_with fail
  refine HA'.out.mono ?_
  rintro e w1 (⟨ok1, rfl, h1, g1⟩ | ⟨ok1, rfl, ⟨k1, f1, le1, hk1, n1, h1⟩, g1⟩)
  · have H1 := Lib.hid h1
    have G1 := Lib.hid g1
    have hV : v = strN lo s.data.toList (k0 + 1) := by rw [HN.out, if_pos ok1]
    have hlt : k0 < s.size := (seeP_lt ok1 (by decide)).1
    have HV := Lib.hid hV
    clear h1 g1 ok1 HN HA' hV
    go_wp2_with fail
    go_loopg [2] (s.size - (k0 + 1)) (fun q z wx => ∃ k : Nat, z = .bool false ∧ k0 < k ∧ k ≤ s.size ∧ q = s.size - k ∧ Hid (RdAt wx R s k tw lo f op) ∧ Hid (w.grownBy wx (some R)) ∧ Hid (v = strN lo s.data.toList k))
    case atStart => exact ⟨k0 + 1, rfl, by omega, hlt, rfl, H1, G1, HV⟩
    case round =>
      clear H1 G1 HV
      obtain ⟨k, rfl, hkk, hks, rfl, hR, hG, hV⟩ := hrel
      have c0 := hR.out.c0
      have c1 := hR.out.c1
      have c3 := hR.out.c3
      have f1 := hR.out.fz 1
      by_cases hl : k < s.size
      · have hll : k < s.data.toList.length := by rw [size_list]; exact hl
        have hb : ((s[k]'hl).toNat : Int) = atL s.data.toList k := at_eq s k hl
        have hB := Lib.hid hb
        have hnl : ¬ s.size ≤ k := by omega
        clear hb
        have QF := fun W x => (failNo R s k tw lo f op 4 (by decide) W x hks)
        have HQF := Lib.hid QF
        have QE := fun W x => escapeS R s (k + 1) tw lo f op W x hs hl
        have HQE := Lib.hid QE
        have QR := fun W x => rune R s k tw lo f op W x hs hl
        have HQR := Lib.hid QR
        clear QF QE QR
        by_cases q1 : atL s.data.toList k = 34
        · have e1 : (((s[k]'hl).toNat : Int) == 34) = true := by rw [hB.out]; simpa using q1
          have HQ := Lib.hid q1
          clear q1
          go_wp2
          go_quiet (fail)
          go_wp2
          go_quiet (fail)
          go_wp2
          go_ret
          have e := strN_quote (lo := lo) hll HQ.out
          exact .inl ⟨by rw [hV.out, e]; omega, by rw [hV.out, e]; exact ⟨rfl, hR.out.drewN _, grown_drewN hG.out _⟩⟩
        · have e1 : (((s[k]'hl).toNat : Int) == 34) = false := by rw [hB.out]; simpa using q1
          have HQ1 := Lib.hid q1
          clear q1
          by_cases q2 : atL s.data.toList k = 92
          · have e2 : (((s[k]'hl).toNat : Int) == 92) = true := by rw [hB.out]; simpa using q2
            have hst : stepN lo s.data.toList k = escN lo s.data.toList (k + 1) := by unfold stepN; rw [if_pos q2]
            have HST := Lib.hid hst
            clear q2 hst
            go_wp2
            go_quiet (fail)
            go_wp2
            go_quiet (fail)
            go_wp2_with fail
            refine (HQE.out _ ((hR.out.drewN _).inc)).mono ?_
            rintro e w2 (⟨ok2, rfl, h2, g2⟩ | ⟨ok2, rfl, ⟨k2, f2, le2, hk2, n2, h2⟩, g2⟩)
            · have H2 := Lib.hid h2
              have G2 := Lib.hid (grown_trans (grown_set (grown_drewN hG.out _) 1 (.int .i64 ((k : Int) + 1))) g2)
              have hsn : ¬ stepN lo s.data.toList k = 0 := by rw [HST.out]; exact ok2
              have hr := escN_range ok2
              rw [size_list] at hr
              have hvv : v = strN lo s.data.toList (escN lo s.data.toList (k + 1)) := by rw [hV.out, strN_step hll HQ1.out hsn, HST.out]
              have HVV := Lib.hid hvv
              clear h2 g2 ok2 hsn hvv
              generalize escN lo s.data.toList (k + 1) = k3 at H2 HVV hr
              go_wp2
              go_roundg (s.size - k3)
              case measure => omega
              case rel => exact ⟨k3, rfl, by omega, by omega, rfl, H2, G2, HVV⟩
            · have H2 := Lib.hid h2
              have G2 := Lib.hid (grown_trans (grown_set (grown_drewN hG.out _) 1 (.int .i64 ((k : Int) + 1))) g2)
              have hvv : v = 0 := by rw [hV.out]; exact strN_fail hll HQ1.out (by rw [HST.out]; exact Classical.byContradiction fun q => ok2 q)
              have HVV := Lib.hid hvv
              clear h2 g2 ok2 hvv
              go_wp2
              go_ret
              exact .inr ⟨fun q => q HVV.out, rfl, ⟨k2, f2, by omega, hk2, n2, H2.out⟩, G2.out⟩
          · have e2 : (((s[k]'hl).toNat : Int) == 92) = false := by rw [hB.out]; simpa using q2
            have HQ2 := Lib.hid q2
            clear q2
            by_cases q3 : atL s.data.toList k < 32
            · have e3 : decide (((s[k]'hl).toNat : Int) < 32) = true := by rw [hB.out]; simpa using q3
              have hst : stepN lo s.data.toList k = 0 := by unfold stepN; rw [if_neg HQ2.out, if_pos q3]
              have hvv : v = 0 := by rw [hV.out]; exact strN_fail hll HQ1.out hst
              have HVV := Lib.hid hvv
              clear q3 hst hvv
              go_wp2
              go_quiet (fail)
              go_wp2
              go_quiet (fail)
              go_wp2_with fail
              refine (HQF.out _ (hR.out.drewN _)).mono ?_
              rintro e w2 ⟨rfl, ⟨k2, f2, le2, hk2, n2, h2⟩, g2⟩
              have H2 := Lib.hid h2
              have G2 := Lib.hid (grown_trans (grown_drewN hG.out _) g2)
              clear h2 g2
              go_wp2
              go_ret
              exact .inr ⟨fun q => q HVV.out, rfl, ⟨k2, f2, by omega, hk2, n2, H2.out⟩, G2.out⟩
            · have e3 : decide (((s[k]'hl).toNat : Int) < 32) = false := by rw [hB.out]; simpa using q3
              have HQ3 := Lib.hid q3
              clear q3
              by_cases q4 : atL s.data.toList k < 128
              · have e4 : decide (((s[k]'hl).toNat : Int) < 128) = true := by rw [hB.out]; simpa using q4
                have hst : stepN lo s.data.toList k = k + 1 := by unfold stepN; rw [if_neg HQ2.out, if_neg HQ3.out, if_pos (Or.inl q4)]
                have hvv : v = strN lo s.data.toList (k + 1) := by rw [hV.out, strN_step hll HQ1.out (by rw [hst]; omega), hst]
                have HVV := Lib.hid hvv
                clear q4 hst hvv
                go_wp2
                go_quiet (fail)
                go_wp2
                go_quiet (fail)
                go_wp2
                go_roundg (s.size - (k + 1))
                case measure => omega
                case rel => exact ⟨k + 1, rfl, by omega, by omega, rfl, Lib.hid (hR.out.drewN _).inc, Lib.hid (grown_set (grown_drewN hG.out _) _ _), HVV⟩
              · have e4 : decide (((s[k]'hl).toNat : Int) < 128) = false := by rw [hB.out]; simpa using q4
                have HQ4 := Lib.hid q4
                clear q4
                cases lo
                · have hst : stepN false s.data.toList k = if rlL (s.data.toList.drop k) = 0 then 0 else k + decW (s.data.toList.drop k) := by unfold stepN; rw [if_neg HQ2.out, if_neg HQ3.out, if_neg (by intro q; rcases q with q | q; exact HQ4.out q; cases q)]
                  have HST := Lib.hid hst
                  clear hst
                  go_wp2
                  go_quiet (fail)
                  go_wp2
                  go_quiet (fail)
                  go_wp2_with fail
                  refine (HQR.out _ (hR.out.drewN _) (by have := HQ4.out; omega)).mono ?_
                  rintro e w2 ⟨p1, p2⟩
                  by_cases q5 : rlL (s.data.toList.drop k) = 0
                  · obtain ⟨rfl, ⟨k2, f2, le2, hk2, n2, h2⟩, g2⟩ := p2 q5
                    have H2 := Lib.hid h2
                    have G2 := Lib.hid (grown_trans (grown_drewN hG.out _) g2)
                    have hvv : v = 0 := by rw [hV.out]; exact strN_fail hll HQ1.out (by rw [HST.out, if_pos q5])
                    have HVV := Lib.hid hvv
                    clear h2 g2 hvv p1 p2 q5
                    go_wp2
                    go_ret
                    exact .inr ⟨fun q => q HVV.out, rfl, ⟨k2, f2, by omega, hk2, n2, H2.out⟩, G2.out⟩
                  · obtain ⟨rfl, h2, g2⟩ := p1 q5
                    have H2 := Lib.hid h2
                    have G2 := Lib.hid (grown_trans (grown_drewN hG.out _) g2)
                    have hst : stepN false s.data.toList k = k + decW (s.data.toList.drop k) := by rw [HST.out, if_neg q5]
                    have hw := decW_range (s.data.toList.drop k) (by rw [List.length_drop]; omega)
                    rw [List.length_drop, size_list] at hw
                    have hvv : v = strN false s.data.toList (k + decW (s.data.toList.drop k)) := by rw [hV.out, strN_step hll HQ1.out (by rw [hst]; omega), hst]
                    have HVV := Lib.hid hvv
                    clear h2 g2 hvv p1 p2 q5 hst HST
                    generalize decW (s.data.toList.drop k) = d at H2 HVV hw
                    go_wp2
                    go_roundg (s.size - (k + d))
                    case measure => omega
                    case rel => exact ⟨k + d, rfl, by omega, by omega, rfl, H2, G2, HVV⟩
                · have hst : stepN true s.data.toList k = k + 1 := by unfold stepN; rw [if_neg HQ2.out, if_neg HQ3.out, if_pos (Or.inr rfl)]
                  have hvv : v = strN true s.data.toList (k + 1) := by rw [hV.out, strN_step hll HQ1.out (by rw [hst]; omega), hst]
                  have HVV := Lib.hid hvv
                  clear hst hvv
                  go_wp2
                  go_quiet (fail)
                  go_wp2
                  go_quiet (fail)
                  go_wp2
                  go_roundg (s.size - (k + 1))
                  case measure => omega
                  case rel => exact ⟨k + 1, rfl, by omega, by omega, rfl, Lib.hid (hR.out.drewN _).inc, Lib.hid (grown_set (grown_drewN hG.out _) _ _), HVV⟩
      · skip
        have hvv : v = 0 := by rw [hV.out]; exact strN_end (by rw [size_list]; exact hl)
        have HVV := Lib.hid hvv
        have QF := fun W x => (failNo R s k tw lo f op 4 (by decide) W x hks)
        have HQF := Lib.hid QF
        have hnl : s.size ≤ k := by omega
        clear hvv QF
        go_wp2
        go_quiet (fail)
        go_wp2_with fail
        refine (HQF.out _ (hR.out.drewN _)).mono ?_
        rintro e w2 ⟨rfl, ⟨k2, f2, le2, hk2, n2, h2⟩, g2⟩
        have H2 := Lib.hid h2
        have G2 := Lib.hid (grown_trans (grown_drewN hG.out _) g2)
        clear h2 g2
        go_wp2
        go_ret
        exact .inr ⟨fun q => q HVV.out, rfl, ⟨k2, f2, by omega, hk2, n2, H2.out⟩, G2.out⟩
  · have H1 := Lib.hid h1
    have G1 := Lib.hid g1
    have hV : v = 0 := by rw [HN.out, if_neg ok1]
    have HV := Lib.hid hV
    clear h1 g1 ok1 HN HA' hV
    go_wp2
    go_ret
    exact .inr ⟨fun q => q HV.out, rfl, ⟨k1, _, le1, hk1, n1, H1.out⟩, G1.out⟩
end Go.Proofs.YtldcoaigecnpfaaDoor
