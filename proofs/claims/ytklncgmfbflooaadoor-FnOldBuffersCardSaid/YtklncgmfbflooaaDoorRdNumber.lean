/- The reference's reader: words and numbers, walked. -/
import Derived.Test.YtklncgmfbflooaaDoorRdNum
namespace Go.Proofs.YtklncgmfbflooaaDoor
open Go.RowKit
/-- How many bytes a text and a word have in common from their beginnings on. -/
def comm : List UInt8 → List UInt8 → Nat
  | a :: l, b :: m => if a = b then comm l m + 1 else 0
  | _, _ => 0
theorem comm_le : ∀ l m : List UInt8, comm l m ≤ l.length ∧ comm l m ≤ m.length
  | [], _ => by simp [comm]
  | _ :: _, [] => by simp [comm]
  | a :: l, b :: m => by
    unfold comm
    split
    · have := comm_le l m; simp; omega
    · simp
theorem comm_at : ∀ (l m : List UInt8) (j : Nat), j < comm l m → atL l j = atL m j
  | [], _, j, h => by simp [comm] at h
  | _ :: _, [], j, h => by simp [comm] at h
  | a :: l, b :: m, j, h => by
    unfold comm at h
    by_cases e : a = b
    · subst e
      rw [if_pos rfl] at h
      cases j with
      | zero => rfl
      | succ j => exact comm_at l m j (by omega)
    · rw [if_neg e] at h; omega
theorem comm_no : ∀ (l m : List UInt8), comm l m < l.length → comm l m < m.length → ¬ atL l (comm l m) = atL m (comm l m)
  | [], _, h, _ => by simp [comm] at h
  | _ :: _, [], _, h => by simp [comm] at h
  | a :: l, b :: m, h1, h2 => by
    by_cases e : a = b
    · subst e
      have ec : comm (a :: l) (a :: m) = comm l m + 1 := by rw [comm, if_pos rfl]
      rw [ec] at h1 h2 ⊢
      exact comm_no l m (by simpa using h1) (by simpa using h2)
    · have ec : comm (a :: l) (b :: m) = 0 := by rw [comm, if_neg e]
      rw [ec]
      intro q
      have q' : ((a.toNat : Int) = (b.toNat : Int)) := q
      exact e (UInt8.toNat_inj.1 (by omega))
theorem atL_drop (l : List UInt8) (k j : Nat) : atL (l.drop k) j = atL l (k + j) := by
  unfold atL; rw [List.getD_eq_getElem?_getD, List.getD_eq_getElem?_getD, List.getElem?_drop]
/-- The place behind a word, or 0. -/
def wordN (l m : List UInt8) (k : Nat) : Nat := if comm (l.drop k) m = m.length then k + m.length else 0
set_option maxRecDepth 100000 in
set_option maxHeartbeats 2000000 in
theorem wordS (R : Nat) (s m : ByteArray) (k0 : Nat) (tw lo : Bool) (f : Int) (op : Bool) (w : World) (h : RdAt w R s k0 tw lo f op) (hs : s.size ≤ 140737488355328) (hk0 : k0 ≤ s.size) (hm : m.size ≤ 4000) (hm0 : 0 < m.size) :
    Calls Tryd.prog 76 #[.pointer (some ⟨R, 0, none⟩), .string m] w (Rd (¬ wordN s.data.toList m.data.toList k0 = 0) (wordN s.data.toList m.data.toList k0) R s k0 tw lo f op w) := by
  have H0 := Lib.hid h
  have hle := comm_le (s.data.toList.drop k0) m.data.toList
  have hat := comm_at (s.data.toList.drop k0) m.data.toList
  have hno := comm_no (s.data.toList.drop k0) m.data.toList
  have hw : wordN s.data.toList m.data.toList k0 = if comm (s.data.toList.drop k0) m.data.toList = m.size then k0 + m.size else 0 := by unfold wordN; rw [size_list]
  rw [List.length_drop, size_list, size_list] at hle
  rw [List.length_drop, size_list, size_list] at hno
  generalize comm (s.data.toList.drop k0) m.data.toList = p at hle hat hno hw
  generalize wordN s.data.toList m.data.toList k0 = v at hw ⊢
  have hat2 : ∀ j, j < p → atL s.data.toList (k0 + j) = atL m.data.toList j := fun j hj => by rw [← atL_drop]; exact hat j hj
  have hno2 : p < m.size → k0 + p < s.size → ¬ atL s.data.toList (k0 + p) = atL m.data.toList p := fun a b => by rw [← atL_drop]; exact hno (by omega) a
  have HAT := Lib.hid hat2
  have HNO := Lib.hid hno2
  have HW := Lib.hid hw
  have hpm := hle.2
  have hps : k0 + p ≤ s.size := by omega
  clear h hat hno hat2 hno2 hw hle
  go_enter Tryd.func76, Tryd.ntmps76
  go_wp2
  go_loopg [8] p (fun n i wx => ∃ j : Nat, j ≤ p ∧ n = p - j ∧ i = .int .i64 j ∧ Hid (RdAt wx R s (k0 + j) tw lo f op) ∧ Hid (w.grownBy wx (some R)))
  case atStart => exact ⟨0, Nat.zero_le _, rfl, rfl, H0.out, grown_refl _ _⟩
  case round =>
    clear H0
    obtain ⟨j, hj, rfl, rfl, hR, hG⟩ := hrel
    by_cases hjk : j < p
    · have hjm : j < m.size := by omega
      have hjs : k0 + j < s.size := by omega
      have hx : ((m[j]'hjm).toNat : Int) = atL m.data.toList j := at_eq m j hjm
      have he : atL s.data.toList (k0 + j) = atL m.data.toList j := HAT.out j hjk
      have hlt : (j : Int) < (m.size : Int) := by omega
      have HX := Lib.hid hx
      have HE := Lib.hid he
      clear hx he
      go_wp2
      go_region_with (go_at_call 65; refine (need_ok R s (k0 + j) tw lo f op _ _ _ (hR.out.drewN _) (by omega) hjs (by rw [HE.out, ← HX.out]; exact Int.le_refl _) (by rw [HE.out, ← HX.out]; exact Int.le_refl _)).mono ?_; rintro e w' ⟨rfl, h1, h2⟩)
      all_goals (try go_wp2)
      all_goals (
        go_roundg (p - (j + 1))
        case measure => omega
        case rel => exact ⟨j + 1, hjk, rfl, by go_num, h1, grown_trans (grown_drewN hG.out _) h2⟩)
    · have hje : j = p := by omega
      subst hje
      by_cases hjm : j < m.size
      · have hv : v = 0 := by rw [HW.out, if_neg (by omega)]
        have HV := Lib.hid hv
        have hlt : (j : Int) < (m.size : Int) := by omega
        have hx : ((m[j]'hjm).toNat : Int) = atL m.data.toList j := at_eq m j hjm
        have hno : k0 + j < s.size → ¬ (((m[j]'hjm).toNat : Int) ≤ atL s.data.toList (k0 + j) ∧ atL s.data.toList (k0 + j) ≤ ((m[j]'hjm).toNat : Int)) := fun q => by
          have := HNO.out hjm q
          rw [hx]; omega
        have HNO2 := Lib.hid hno
        clear hx hno hjk hv
        go_wp2
        go_region_with (go_at_call 65; refine (need_no R s (k0 + j) tw lo f op _ _ _ (hR.out.drewN _) (by omega) hps HNO2.out).mono ?_; rintro e w' ⟨rfl, ⟨k2, f2, le2, hk2, n2, h2⟩, g2⟩)
        all_goals (try go_wp2)
        all_goals (
          go_ret
          exact .inr ⟨fun q => q HV.out, rfl, ⟨k2, f2, by omega, hk2, n2, h2⟩, grown_trans (grown_drewN hG.out _) g2⟩)
      · have hje : j = m.size := by omega
        have hv : v = k0 + m.size := by rw [HW.out, if_pos hje]
        have HV := Lib.hid hv
        have hlt : ¬ (j : Int) < (m.size : Int) := by omega
        clear hjk hv
        go_wp2
        go_ret
        exact .inl ⟨by rw [HV.out]; omega, by rw [HV.out, ← hje]; exact ⟨rfl, hR.out, hG.out⟩⟩
/-- The place behind an exponent (whose letter is read), or 0. -/
def nExpS (l : List UInt8) (k : Nat) : Nat := digP l (if seeP l k = 43 ∨ seeP l k = 45 then k + 1 else k)
/-- .. behind an exponent, if one stands there. -/
def nExp (l : List UInt8) (k : Nat) : Nat := if seeP l k = 101 ∨ seeP l k = 69 then nExpS l (k + 1) else k
/-- .. behind a point's digits and an exponent, if they stand there. -/
def nFrac (l : List UInt8) (k : Nat) : Nat := if seeP l k = 46 then (if digP l (k + 1) = 0 then 0 else nExp l (digP l (k + 1))) else nExp l k
def nInt (l : List UInt8) (k : Nat) : Nat := if seeP l k = 48 then nFrac l (k + 1) else if digP l k = 0 then 0 else nFrac l (digP l k)
/-- The place behind a number, or 0. -/
def numN (l : List UInt8) (k : Nat) : Nat := nInt l (if seeP l k = 45 then k + 1 else k)
theorem seeP_le {l : List UInt8} {k : Nat} {c : Int} (h : seeP l k = c) (hc : ¬ c = 0) : k < l.length := seeP_ltL (by rw [h]; exact hc)
theorem nExp_range {l : List UInt8} {k : Nat} (hk : k ≤ l.length) (h : ¬ nExp l k = 0) : k ≤ nExp l k ∧ nExp l k ≤ l.length := by
  unfold nExp at h ⊢
  by_cases a : seeP l k = 101 ∨ seeP l k = 69
  · rw [if_pos a] at h ⊢
    unfold nExpS at h ⊢
    by_cases b : seeP l (k + 1) = 43 ∨ seeP l (k + 1) = 45
    · rw [if_pos b] at h ⊢
      have := digP_range h; omega
    · rw [if_neg b] at h ⊢
      have := digP_range h; omega
  · rw [if_neg a]; omega
theorem nFrac_range {l : List UInt8} {k : Nat} (hk : k ≤ l.length) (h : ¬ nFrac l k = 0) : k ≤ nFrac l k ∧ nFrac l k ≤ l.length := by
  unfold nFrac at h ⊢
  by_cases a : seeP l k = 46
  · rw [if_pos a] at h ⊢
    by_cases b : digP l (k + 1) = 0
    · rw [if_pos b] at h; exact absurd rfl h
    · rw [if_neg b] at h ⊢
      have := digP_range b
      have := nExp_range (by omega) h
      omega
  · rw [if_neg a] at h ⊢
    exact nExp_range hk h
theorem nInt_range {l : List UInt8} {k : Nat} (h : ¬ nInt l k = 0) : k < nInt l k ∧ nInt l k ≤ l.length := by
  unfold nInt at h ⊢
  by_cases a : seeP l k = 48
  · rw [if_pos a] at h ⊢
    have := seeP_le a (by decide)
    have := nFrac_range (by omega) h
    omega
  · rw [if_neg a] at h ⊢
    by_cases b : digP l k = 0
    · rw [if_pos b] at h; exact absurd rfl h
    · rw [if_neg b] at h ⊢
      have := digP_range b
      have := nFrac_range (by omega) h
      omega
theorem numN_range {l : List UInt8} {k : Nat} (h : ¬ numN l k = 0) : k < numN l k ∧ numN l k ≤ l.length := by
  unfold numN at h ⊢
  by_cases a : seeP l k = 45
  · rw [if_pos a] at h ⊢
    have := nInt_range h
    omega
  · rw [if_neg a] at h ⊢
    exact nInt_range h
theorem NoPost.intro {R : Nat} {s : ByteArray} {k k' : Nat} {tw lo : Bool} {f' : Int} {op : Bool} {w w' : World} (h1 : k ≤ k') (h2 : k' ≤ s.size) (h3 : ¬ f' = 0) (h4 : RdAt w' R s k' tw lo f' op) (h5 : w.grownBy w' (some R)) : NoPost R s k tw lo op w (.returned (.bool false)) w' :=
  ⟨rfl, ⟨k', f', h1, h2, h3, h4⟩, h5⟩
set_option maxRecDepth 100000 in
set_option maxHeartbeats 4000000 in
theorem numberS (R : Nat) (s : ByteArray) (k0 : Nat) (tw lo : Bool) (f : Int) (op : Bool) (w : World) (h : RdAt w R s k0 tw lo f op) (hs : s.size ≤ 140737488355328) (hk0 : k0 ≤ s.size) :
    Calls Tryd.prog 78 #[.pointer (some ⟨R, 0, none⟩)] w (Rd (¬ numN s.data.toList k0 = 0) (numN s.data.toList k0) R s k0 tw lo f op w) := by
  have H0 := Lib.hid h
  have HSEE : Hid (∀ k W, RdAt W R s k tw lo f op → k ≤ s.size → Calls Tryd.prog 58 #[.pointer (some ⟨R, 0, none⟩)] W (ValPost (.int .u8 (seeP s.data.toList k)) R s k tw lo f op W)) := Lib.hid fun k W a b => see R s k tw lo f op W a hs b
  have HDIG : Hid (∀ k W, RdAt W R s k tw lo f op → k ≤ s.size → Calls Tryd.prog 91 #[.pointer (some ⟨R, 0, none⟩)] W (Rd (¬ digP s.data.toList k = 0) (digP s.data.toList k) R s k tw lo f op W)) := Lib.hid fun k W a b => digitsS R s k tw lo f op W a hs b
  have HLT : Hid (∀ k c, seeP s.data.toList k = c → ¬ c = 0 → k < s.size) := Lib.hid fun k c a b => (seeP_lt a b).1
  have HDR : Hid (∀ k, ¬ digP s.data.toList k = 0 → k < digP s.data.toList k ∧ digP s.data.toList k ≤ s.size) := Lib.hid fun k q => by have := digP_range q; rwa [size_list] at this
  obtain ⟨v, hv⟩ : ∃ v, v = numN s.data.toList k0 := ⟨_, rfl⟩
  rw [← hv]
  have HV := Lib.hid hv
  clear h hv
  go_enter Tryd.func78, Tryd.ntmps78
  go_wp2_with fail
  refine (HSEE.out k0 _ H0.out hk0).mono ?_
  rintro e w1 ⟨rfl, h1, g1⟩
  have H1 := Lib.hid h1
  have G1 := Lib.hid g1
  have HV1 : Hid (v = nInt s.data.toList (if seeP s.data.toList k0 = 45 then k0 + 1 else k0)) := HV
  have HL1 := HLT.out k0 (seeP s.data.toList k0) rfl
  generalize seeP s.data.toList k0 = c at HV1 HL1
  clear h1 g1 H0 HV
  go_upto_if 5 with fail
  go_cut [] (fun wx => ∃ k : Nat, k0 ≤ k ∧ k ≤ s.size ∧ Hid (RdAt wx R s k tw lo f op) ∧ Hid (w.grownBy wx (some R)) ∧ Hid (v = nInt s.data.toList k))
  case first =>
    by_cases q : c = 45
    · subst q
      have hlt := HL1 (by decide)
      have hv2 : v = nInt s.data.toList (k0 + 1) := by rw [HV1.out, if_pos rfl]
      have HV2 := Lib.hid hv2
      have c1 := H1.out.c1
      have f1 := H1.out.fz 1
      clear hv2 HV1 HL1
      go_wp2
      go_meet
      exact ⟨k0 + 1, by omega, by omega, Lib.hid H1.out.inc, Lib.hid (grown_set G1.out _ _), HV2⟩
    · have b1 : (c == 45) = false := by simpa using q
      have hv2 : v = nInt s.data.toList k0 := by rw [HV1.out, if_neg q]
      have HV2 := Lib.hid hv2
      clear hv2 HV1 HL1 q
      go_wp2
      go_meet
      exact ⟨k0, Nat.le_refl _, hk0, H1, G1, HV2⟩
  case rest =>
    clear H1 G1 HV1 HL1
    obtain ⟨k1, hk1, hks1, H1, G1, HV1⟩ := hcut
    go_wp2_with fail
    refine (HSEE.out k1 _ H1.out hks1).mono ?_
    rintro e w2 ⟨rfl, h2, g2⟩
    have H2 := Lib.hid h2
    have G2 := Lib.hid (grown_trans G1.out g2)
    have HV2 : Hid (v = if seeP s.data.toList k1 = 48 then nFrac s.data.toList (k1 + 1) else if digP s.data.toList k1 = 0 then 0 else nFrac s.data.toList (digP s.data.toList k1)) := HV1
    have HL2 := HLT.out k1 (seeP s.data.toList k1) rfl
    generalize seeP s.data.toList k1 = c2 at HV2 HL2
    clear h2 g2 H1 HV1 G1
    go_upto_if 15 with fail
    go_cut [2] (fun z wx => z = .bool false ∧ ∃ k : Nat, k0 < k ∧ k ≤ s.size ∧ Hid (RdAt wx R s k tw lo f op) ∧ Hid (w.grownBy wx (some R)) ∧ Hid (v = nFrac s.data.toList k))
    case first =>
      by_cases q : c2 = 48
      · subst q
        have hlt := HL2 (by decide)
        have hv2 : v = nFrac s.data.toList (k1 + 1) := by rw [HV2.out, if_pos rfl]
        have HV3 := Lib.hid hv2
        have c1 := H2.out.c1
        have f1 := H2.out.fz 1
        clear hv2 HV2 HL2
        go_wp2
        go_meet
        exact ⟨rfl, k1 + 1, by omega, by omega, Lib.hid H2.out.inc, Lib.hid (grown_set G2.out _ _), HV3⟩
      · have b1 : (c2 == 48) = false := by simpa using q
        have hv2 : v = if digP s.data.toList k1 = 0 then 0 else nFrac s.data.toList (digP s.data.toList k1) := by rw [HV2.out, if_neg q]
        have HV3 := Lib.hid hv2
        clear hv2 HV2 HL2 q
        go_wp2_with fail
        refine (HDIG.out k1 _ H2.out hks1).mono ?_
        rintro e w3 (⟨ok, rfl, h3, g3⟩ | ⟨ok, rfl, ⟨k2, f2, le2, hk2, n2, h3⟩, g3⟩)
        · have hr := HDR.out k1 ok
          have hv3 : v = nFrac s.data.toList (digP s.data.toList k1) := by rw [HV3.out, if_neg ok]
          have HV4 := Lib.hid hv3
          have H3 := Lib.hid h3
          have G3 := Lib.hid (grown_trans G2.out g3)
          clear ok hv3 h3 g3 HV3
          generalize digP s.data.toList k1 = d at H3 hr HV4
          go_wp2
          go_meet
          exact ⟨rfl, d, by omega, hr.2, H3, G3, HV4⟩
        · have hv3 : v = 0 := by rw [HV3.out, if_pos (Classical.byContradiction ok)]
          have HV4 := Lib.hid hv3
          have H3 := Lib.hid h3
          have G3 := Lib.hid (grown_trans G2.out g3)
          clear ok hv3 h3 g3 HV3
          go_wp2
          go_ret
          exact .inr ⟨fun q => q HV4.out, NoPost.intro (by omega) hk2 n2 H3.out G3.out⟩
    case rest =>
      clear H2 G2 HV2 HL2
      obtain ⟨rfl, k2, hk2, hks2, H2, G2, HV2⟩ := hcut
      go_wp2_with fail
      refine (HSEE.out k2 _ H2.out hks2).mono ?_
      rintro e w3 ⟨rfl, h3, g3⟩
      have H3 := Lib.hid h3
      have G3 := Lib.hid (grown_trans G2.out g3)
      have HV3 : Hid (v = if seeP s.data.toList k2 = 46 then (if digP s.data.toList (k2 + 1) = 0 then 0 else nExp s.data.toList (digP s.data.toList (k2 + 1))) else nExp s.data.toList k2) := HV2
      have HL3 := HLT.out k2 (seeP s.data.toList k2) rfl
      generalize seeP s.data.toList k2 = c3 at HV3 HL3
      clear h3 g3 H2 HV2 G2
      go_upto_if 28 with fail
      go_cut [2] (fun z wx => z = .bool false ∧ ∃ k : Nat, k0 < k ∧ k ≤ s.size ∧ Hid (RdAt wx R s k tw lo f op) ∧ Hid (w.grownBy wx (some R)) ∧ Hid (v = nExp s.data.toList k))
      case first =>
        by_cases q : c3 = 46
        · subst q
          have hlt := HL3 (by decide)
          have hv2 : v = if digP s.data.toList (k2 + 1) = 0 then 0 else nExp s.data.toList (digP s.data.toList (k2 + 1)) := by rw [HV3.out, if_pos rfl]
          have HV4 := Lib.hid hv2
          have c1 := H3.out.c1
          have f1 := H3.out.fz 1
          clear hv2 HV3 HL3
          go_wp2_with fail
          refine (HDIG.out (k2 + 1) _ H3.out.inc (by omega)).mono ?_
          rintro e w4 (⟨ok, rfl, h4, g4⟩ | ⟨ok, rfl, ⟨k3, f3, le3, hk3, n3, h4⟩, g4⟩)
          · have hr := HDR.out (k2 + 1) ok
            have hv3 : v = nExp s.data.toList (digP s.data.toList (k2 + 1)) := by rw [HV4.out, if_neg ok]
            have HV5 := Lib.hid hv3
            have H4 := Lib.hid h4
            have G4 := Lib.hid (grown_trans (grown_set G3.out 1 (.int .i64 ((k2 : Int) + 1))) g4)
            clear ok hv3 h4 g4 HV4
            generalize digP s.data.toList (k2 + 1) = d at H4 hr HV5
            go_wp2
            go_meet
            exact ⟨rfl, d, by omega, hr.2, H4, G4, HV5⟩
          · have hv3 : v = 0 := by rw [HV4.out, if_pos (Classical.byContradiction ok)]
            have HV5 := Lib.hid hv3
            have H4 := Lib.hid h4
            have G4 := Lib.hid (grown_trans (grown_set G3.out 1 (.int .i64 ((k2 : Int) + 1))) g4)
            clear ok hv3 h4 g4 HV4
            go_wp2
            go_ret
            exact .inr ⟨fun q => q HV5.out, NoPost.intro (by omega) hk3 n3 H4.out G4.out⟩
        · have b1 : (c3 == 46) = false := by simpa using q
          have hv2 : v = nExp s.data.toList k2 := by rw [HV3.out, if_neg q]
          have HV4 := Lib.hid hv2
          clear hv2 HV3 HL3 q
          go_wp2
          go_meet
          exact ⟨rfl, k2, hk2, hks2, H3, G3, HV4⟩
      case rest =>
        clear H3 G3 HV3 HL3
        obtain ⟨rfl, k3, hk3, hks3, H3, G3, HV3⟩ := hcut
        go_wp2_with fail
        refine (HSEE.out k3 _ H3.out hks3).mono ?_
        rintro e w4 ⟨rfl, h4, g4⟩
        have H4 := Lib.hid h4
        have G4 := Lib.hid (grown_trans G3.out g4)
        have HV4 : Hid (v = if seeP s.data.toList k3 = 101 ∨ seeP s.data.toList k3 = 69 then nExpS s.data.toList (k3 + 1) else k3) := HV3
        have HL4 := HLT.out k3 (seeP s.data.toList k3) rfl
        have HC : Hid (seeP s.data.toList k3 = seeP s.data.toList k3) := rfl
        have HSEE3 := Lib.hid (HSEE.out k3)
        generalize seeP s.data.toList k3 = c4 at HV4 HL4 HSEE3
        clear h4 g4 H3 HV3 G3
        by_cases q : c4 = 101
        · subst q
          have hlt := HL4 (by decide)
          have hv5 : v = nExpS s.data.toList (k3 + 1) := by rw [HV4.out, if_pos (Or.inl rfl)]
          have HV5 := Lib.hid hv5
          clear hv5 HV4 HL4 HC
          have c1 := H4.out.c1
          have f1 := H4.out.fz 1
          have HI := Lib.hid H4.out.inc
          have GI := Lib.hid (grown_set G4.out 1 (.int .i64 ((k3 : Int) + 1)))
          have HV6 : Hid (v = digP s.data.toList (if seeP s.data.toList (k3 + 1) = 43 ∨ seeP s.data.toList (k3 + 1) = 45 then k3 + 1 + 1 else k3 + 1)) := HV5
          have HL5 := HLT.out (k3 + 1) (seeP s.data.toList (k3 + 1)) rfl
          have HSEE5 := Lib.hid (HSEE.out (k3 + 1))
          generalize seeP s.data.toList (k3 + 1) = c5 at HV6 HL5 HSEE5
          clear HV5
          go_wp2_with fail
          refine (HSEE5.out _ HI.out hlt).mono ?_
          rintro e w6 ⟨rfl, h6, g6⟩
          have H6 := Lib.hid h6
          have G6 := Lib.hid (grown_trans GI.out g6)
          clear h6 g6 HI GI
          by_cases z1 : c5 = 43
          · subst z1
            have hv2 : v = digP s.data.toList (k3 + 1 + 1) := by rw [HV6.out, if_pos (Or.inl rfl)]
            have HV7 := Lib.hid hv2
            have hlt2 := HL5 (by decide)
            have c1 := H6.out.c1
            have f1 := H6.out.fz 1
            have HJ := Lib.hid H6.out.inc
            have GJ := Lib.hid (grown_set G6.out 1 (.int .i64 (((k3 + 1 : Nat) : Int) + 1)))
            clear hv2 HV6 HL5
            go_wp2_with fail
            refine (HDIG.out (k3 + 1 + 1) _ HJ.out hlt2).mono ?_
            rintro e w8 (⟨ok, rfl, h8, g8⟩ | ⟨ok, rfl, ⟨k8, f8, le8, hk8, n8, h8⟩, g8⟩)
            · have H8 := Lib.hid h8
              have G8 := Lib.hid (grown_trans GJ.out g8)
              have OK := Lib.hid ok
              clear h8 g8 ok
              go_wp2
              go_ret
              exact .inl ⟨by rw [HV7.out]; exact OK.out, by rw [HV7.out]; exact ⟨rfl, H8.out, G8.out⟩⟩
            · have H8 := Lib.hid h8
              have G8 := Lib.hid (grown_trans GJ.out g8)
              have OK := Lib.hid ok
              clear h8 g8 ok
              go_wp2
              go_ret
              exact .inr ⟨fun q => OK.out (by rw [← HV7.out]; exact q), NoPost.intro (by omega) hk8 n8 H8.out G8.out⟩
          · have bz1 : (c5 == 43) = false := by simpa using z1
            go_wp2_with fail
            refine (HSEE5.out _ H6.out hlt).mono ?_
            rintro e w7 ⟨rfl, h7, g7⟩
            have H7 := Lib.hid h7
            have G7 := Lib.hid (grown_trans G6.out g7)
            clear h7 g7 H6 G6
            by_cases z2 : c5 = 45
            · subst z2
              have hv2 : v = digP s.data.toList (k3 + 1 + 1) := by rw [HV6.out, if_pos (Or.inr rfl)]
              have HV7 := Lib.hid hv2
              have hlt2 := HL5 (by decide)
              have c1 := H7.out.c1
              have f1 := H7.out.fz 1
              have HJ := Lib.hid H7.out.inc
              have GJ := Lib.hid (grown_set G7.out 1 (.int .i64 (((k3 + 1 : Nat) : Int) + 1)))
              clear hv2 HV6 HL5
              go_wp2_with fail
              refine (HDIG.out (k3 + 1 + 1) _ HJ.out hlt2).mono ?_
              rintro e w8 (⟨ok, rfl, h8, g8⟩ | ⟨ok, rfl, ⟨k8, f8, le8, hk8, n8, h8⟩, g8⟩)
              · have H8 := Lib.hid h8
                have G8 := Lib.hid (grown_trans GJ.out g8)
                have OK := Lib.hid ok
                clear h8 g8 ok
                go_wp2
                go_ret
                exact .inl ⟨by rw [HV7.out]; exact OK.out, by rw [HV7.out]; exact ⟨rfl, H8.out, G8.out⟩⟩
              · have H8 := Lib.hid h8
                have G8 := Lib.hid (grown_trans GJ.out g8)
                have OK := Lib.hid ok
                clear h8 g8 ok
                go_wp2
                go_ret
                exact .inr ⟨fun q => OK.out (by rw [← HV7.out]; exact q), NoPost.intro (by omega) hk8 n8 H8.out G8.out⟩
            · have bz2 : (c5 == 45) = false := by simpa using z2
              have hv2 : v = digP s.data.toList (k3 + 1) := by rw [HV6.out, if_neg (by omega)]
              have HV7 := Lib.hid hv2
              clear hv2 HV6 HL5 z1 z2
              go_wp2_with fail
              refine (HDIG.out (k3 + 1) _ H7.out hlt).mono ?_
              rintro e w8 (⟨ok, rfl, h8, g8⟩ | ⟨ok, rfl, ⟨k8, f8, le8, hk8, n8, h8⟩, g8⟩)
              · have H8 := Lib.hid h8
                have G8 := Lib.hid (grown_trans G7.out g8)
                have OK := Lib.hid ok
                clear h8 g8 ok
                go_wp2
                go_ret
                exact .inl ⟨by rw [HV7.out]; exact OK.out, by rw [HV7.out]; exact ⟨rfl, H8.out, G8.out⟩⟩
              · have H8 := Lib.hid h8
                have G8 := Lib.hid (grown_trans G7.out g8)
                have OK := Lib.hid ok
                clear h8 g8 ok
                go_wp2
                go_ret
                exact .inr ⟨fun q => OK.out (by rw [← HV7.out]; exact q), NoPost.intro (by omega) hk8 n8 H8.out G8.out⟩
        · have b1 : (c4 == 101) = false := by simpa using q
          go_wp2_with fail
          refine (HSEE3.out _ H4.out hks3).mono ?_
          rintro e w5 ⟨rfl, h5, g5⟩
          have H5 := Lib.hid h5
          have G5 := Lib.hid (grown_trans G4.out g5)
          clear h5 g5
          clear H4 G4
          by_cases q2 : c4 = 69
          · subst q2
            have hlt := HL4 (by decide)
            have hv5 : v = nExpS s.data.toList (k3 + 1) := by rw [HV4.out, if_pos (Or.inr rfl)]
            have HV5 := Lib.hid hv5
            clear hv5 HV4 HL4 HC q b1
            have c1 := H5.out.c1
            have f1 := H5.out.fz 1
            have HI := Lib.hid H5.out.inc
            have GI := Lib.hid (grown_set G5.out 1 (.int .i64 ((k3 : Int) + 1)))
            have HV6 : Hid (v = digP s.data.toList (if seeP s.data.toList (k3 + 1) = 43 ∨ seeP s.data.toList (k3 + 1) = 45 then k3 + 1 + 1 else k3 + 1)) := HV5
            have HL5 := HLT.out (k3 + 1) (seeP s.data.toList (k3 + 1)) rfl
            have HSEE5 := Lib.hid (HSEE.out (k3 + 1))
            generalize seeP s.data.toList (k3 + 1) = c5 at HV6 HL5 HSEE5
            clear HV5
            go_wp2_with fail
            refine (HSEE5.out _ HI.out hlt).mono ?_
            rintro e w6 ⟨rfl, h6, g6⟩
            have H6 := Lib.hid h6
            have G6 := Lib.hid (grown_trans GI.out g6)
            clear h6 g6 HI GI
            by_cases z1 : c5 = 43
            · subst z1
              have hv2 : v = digP s.data.toList (k3 + 1 + 1) := by rw [HV6.out, if_pos (Or.inl rfl)]
              have HV7 := Lib.hid hv2
              have hlt2 := HL5 (by decide)
              have c1 := H6.out.c1
              have f1 := H6.out.fz 1
              have HJ := Lib.hid H6.out.inc
              have GJ := Lib.hid (grown_set G6.out 1 (.int .i64 (((k3 + 1 : Nat) : Int) + 1)))
              clear hv2 HV6 HL5
              go_wp2_with fail
              refine (HDIG.out (k3 + 1 + 1) _ HJ.out hlt2).mono ?_
              rintro e w8 (⟨ok, rfl, h8, g8⟩ | ⟨ok, rfl, ⟨k8, f8, le8, hk8, n8, h8⟩, g8⟩)
              · have H8 := Lib.hid h8
                have G8 := Lib.hid (grown_trans GJ.out g8)
                have OK := Lib.hid ok
                clear h8 g8 ok
                go_wp2
                go_ret
                exact .inl ⟨by rw [HV7.out]; exact OK.out, by rw [HV7.out]; exact ⟨rfl, H8.out, G8.out⟩⟩
              · have H8 := Lib.hid h8
                have G8 := Lib.hid (grown_trans GJ.out g8)
                have OK := Lib.hid ok
                clear h8 g8 ok
                go_wp2
                go_ret
                exact .inr ⟨fun q => OK.out (by rw [← HV7.out]; exact q), NoPost.intro (by omega) hk8 n8 H8.out G8.out⟩
            · have bz1 : (c5 == 43) = false := by simpa using z1
              go_wp2_with fail
              refine (HSEE5.out _ H6.out hlt).mono ?_
              rintro e w7 ⟨rfl, h7, g7⟩
              have H7 := Lib.hid h7
              have G7 := Lib.hid (grown_trans G6.out g7)
              clear h7 g7 H6 G6
              by_cases z2 : c5 = 45
              · subst z2
                have hv2 : v = digP s.data.toList (k3 + 1 + 1) := by rw [HV6.out, if_pos (Or.inr rfl)]
                have HV7 := Lib.hid hv2
                have hlt2 := HL5 (by decide)
                have c1 := H7.out.c1
                have f1 := H7.out.fz 1
                have HJ := Lib.hid H7.out.inc
                have GJ := Lib.hid (grown_set G7.out 1 (.int .i64 (((k3 + 1 : Nat) : Int) + 1)))
                clear hv2 HV6 HL5
                go_wp2_with fail
                refine (HDIG.out (k3 + 1 + 1) _ HJ.out hlt2).mono ?_
                rintro e w8 (⟨ok, rfl, h8, g8⟩ | ⟨ok, rfl, ⟨k8, f8, le8, hk8, n8, h8⟩, g8⟩)
                · have H8 := Lib.hid h8
                  have G8 := Lib.hid (grown_trans GJ.out g8)
                  have OK := Lib.hid ok
                  clear h8 g8 ok
                  go_wp2
                  go_ret
                  exact .inl ⟨by rw [HV7.out]; exact OK.out, by rw [HV7.out]; exact ⟨rfl, H8.out, G8.out⟩⟩
                · have H8 := Lib.hid h8
                  have G8 := Lib.hid (grown_trans GJ.out g8)
                  have OK := Lib.hid ok
                  clear h8 g8 ok
                  go_wp2
                  go_ret
                  exact .inr ⟨fun q => OK.out (by rw [← HV7.out]; exact q), NoPost.intro (by omega) hk8 n8 H8.out G8.out⟩
              · have bz2 : (c5 == 45) = false := by simpa using z2
                have hv2 : v = digP s.data.toList (k3 + 1) := by rw [HV6.out, if_neg (by omega)]
                have HV7 := Lib.hid hv2
                clear hv2 HV6 HL5 z1 z2
                go_wp2_with fail
                refine (HDIG.out (k3 + 1) _ H7.out hlt).mono ?_
                rintro e w8 (⟨ok, rfl, h8, g8⟩ | ⟨ok, rfl, ⟨k8, f8, le8, hk8, n8, h8⟩, g8⟩)
                · have H8 := Lib.hid h8
                  have G8 := Lib.hid (grown_trans G7.out g8)
                  have OK := Lib.hid ok
                  clear h8 g8 ok
                  go_wp2
                  go_ret
                  exact .inl ⟨by rw [HV7.out]; exact OK.out, by rw [HV7.out]; exact ⟨rfl, H8.out, G8.out⟩⟩
                · have H8 := Lib.hid h8
                  have G8 := Lib.hid (grown_trans G7.out g8)
                  have OK := Lib.hid ok
                  clear h8 g8 ok
                  go_wp2
                  go_ret
                  exact .inr ⟨fun q => OK.out (by rw [← HV7.out]; exact q), NoPost.intro (by omega) hk8 n8 H8.out G8.out⟩
          · have b2 : (c4 == 69) = false := by simpa using q2
            have hv5 : v = k3 := by rw [HV4.out, if_neg (by omega)]
            have HV5 := Lib.hid hv5
            clear hv5 HV4 HL4 q q2
            go_wp2
            go_ret
            exact .inl ⟨by rw [HV5.out]; omega, by rw [HV5.out]; exact ⟨rfl, H5.out, G5.out⟩⟩
end Go.Proofs.YtklncgmfbflooaaDoor
