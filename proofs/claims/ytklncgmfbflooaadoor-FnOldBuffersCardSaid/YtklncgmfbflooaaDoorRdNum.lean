/- The reference's reader: white space, words, digits, numbers, walked. -/
import Derived.Test.YtklncgmfbflooaaDoorRdQuoted
import Derived.Deep.LoopGhost
import Derived.Deep.RegionWith
import Derived.Deep.DeepCutAuto
namespace Go.Proofs.YtklncgmfbflooaaDoor
open Go.RowKit
def isSp (c : Int) : Prop := c = 32 ∨ c = 9 ∨ c = 10 ∨ c = 13
instance (c : Int) : Decidable (isSp c) := by unfold isSp; infer_instance
def IsSpPost (c : Int) (w : World) (e : Ending) (w' : World) : Prop := e = .returned (.bool (decide (isSp c))) ∧ w' = w
theorem isSpace (c : Int) (w : World) : Calls Tryd.prog 62 #[.int .u8 c] w (IsSpPost c w) := by
  by_cases h1 : c = 32
  · subst h1
    go_enter Tryd.func62, Tryd.ntmps62
    go_wp2
    go_ret
    exact ⟨rfl, rfl⟩
  · have b1 : (c == 32) = false := by simpa using h1
    by_cases h2 : c = 9
    · subst h2
      go_enter Tryd.func62, Tryd.ntmps62
      go_wp2
      go_ret
      exact ⟨rfl, rfl⟩
    · have b2 : (c == 9) = false := by simpa using h2
      by_cases h3 : c = 10
      · subst h3
        go_enter Tryd.func62, Tryd.ntmps62
        go_wp2
        go_ret
        exact ⟨rfl, rfl⟩
      · have b3 : (c == 10) = false := by simpa using h3
        have e : decide (isSp c) = decide (c = 13) := by unfold isSp; simp [h1, h2, h3]
        unfold IsSpPost
        rw [e]
        by_cases h4 : c = 13
        · subst h4
          clear h1 h2 h3 b1 b2 b3 e
          go_enter Tryd.func62, Tryd.ntmps62
          go_wp2
          go_ret
          exact ⟨rfl, rfl⟩
        · have b4 : (c == 13) = false := by simpa using h4
          have e2 : decide (c = 13) = false := by simpa using h4
          rw [e2]
          clear h1 h2 h3 h4 e e2
          go_enter Tryd.func62, Tryd.ntmps62
          go_wp2
          go_ret
          exact ⟨rfl, rfl⟩
/-- The first place from k on whose byte is none of a kind. -/
def skF (p : Int → Bool) (l : List UInt8) : Nat → Nat → Nat
  | 0, k => k
  | n + 1, k => if k < l.length ∧ p (atL l k) = true then skF p l n (k + 1) else k
def skN (p : Int → Bool) (l : List UInt8) (k : Nat) : Nat := skF p l (l.length - k) k
theorem skN_step {p : Int → Bool} {l : List UInt8} {k : Nat} (hk : k < l.length) (h : p (atL l k) = true) : skN p l k = skN p l (k + 1) := by
  unfold skN
  rw [show l.length - k = (l.length - (k + 1)) + 1 by omega, skF, if_pos ⟨hk, h⟩]
theorem skN_at {p : Int → Bool} {l : List UInt8} {k : Nat} (h : ¬ (k < l.length ∧ p (atL l k) = true)) : skN p l k = k := by
  unfold skN
  generalize l.length - k = n
  cases n with
  | zero => rfl
  | succ n => rw [skF, if_neg h]
theorem skN_range {p : Int → Bool} {l : List UInt8} : ∀ (n k : Nat), l.length ≤ n + k → k ≤ l.length → k ≤ skN p l k ∧ skN p l k ≤ l.length
  | 0, k, hn, hk => by
    have e : skN p l k = k := skN_at (fun z => by have := z.1; omega)
    omega
  | n + 1, k, hn, hk => by
    by_cases h : k < l.length ∧ p (atL l k) = true
    · rw [skN_step h.1 h.2]
      have := skN_range (p := p) (l := l) n (k + 1) (by omega) (by omega)
      omega
    · rw [skN_at h]; omega
/-- The first place from k on that bears no white space. -/
def spN (l : List UInt8) (k : Nat) : Nat := skN (fun c => decide (isSp c)) l k
theorem spN_range {l : List UInt8} {k : Nat} (h : k ≤ l.length) : k ≤ spN l k ∧ spN l k ≤ l.length := skN_range l.length k (by omega) h
def SpacePost (R : Nat) (s : ByteArray) (k : Nat) (tw lo : Bool) (f : Int) (op : Bool) (w : World) (e : Ending) (w' : World) : Prop :=
  e = .returned (.tuple #[]) ∧ RdAt w' R s k tw lo f op ∧ w.grownBy w' (some R)
theorem isSpace_at (c : Int) (b : Bool) (hb : decide (isSp c) = b) (w : World) (n : Nat) : Calls Tryd.prog 62 #[.int .u8 c] (w.drewN n) fun e w'' => e = .returned (.bool b) ∧ ∃ k, w'' = w.drewN k := (isSpace c _).mono fun _ _ ⟨x, y⟩ => ⟨by rw [← hb]; exact x, n, y⟩
set_option maxRecDepth 100000 in
set_option maxHeartbeats 1000000 in
theorem spaceS (R : Nat) (s : ByteArray) (k0 : Nat) (tw lo : Bool) (f : Int) (op : Bool) (w : World) (h : RdAt w R s k0 tw lo f op) (hs : s.size ≤ 140737488355328) (hk0 : k0 ≤ s.size) :
    Calls Tryd.prog 41 #[.pointer (some ⟨R, 0, none⟩)] w (SpacePost R s (spN s.data.toList k0) tw lo f op w) := by
  have H0 := Lib.hid h
  obtain ⟨v, hv⟩ : ∃ v, v = spN s.data.toList k0 := ⟨_, rfl⟩
  rw [← hv]
  have HV := Lib.hid hv
  clear h hv
  go_enter Tryd.func41, Tryd.ntmps41
  go_wp2
  go_loopg [] (s.size - k0) (fun q wx => ∃ k : Nat, k0 ≤ k ∧ k ≤ s.size ∧ q = s.size - k ∧ Hid (RdAt wx R s k tw lo f op) ∧ Hid (w.grownBy wx (some R)) ∧ Hid (v = spN s.data.toList k))
  case atStart => exact ⟨k0, Nat.le_refl _, hk0, rfl, H0, grown_refl _ _, HV⟩
  case round =>
    clear H0 HV
    obtain ⟨k, hkk, hks, rfl, hR, hG, hV⟩ := hrel
    have c0 := hR.out.c0
    have c1 := hR.out.c1
    have f1 := hR.out.fz 1
    by_cases hl : k < s.size
    · have hll : k < s.data.toList.length := by rw [size_list]; exact hl
      have hb : ((s[k]'hl).toNat : Int) = atL s.data.toList k := at_eq s k hl
      have hB := Lib.hid hb
      clear hb
      have hnl : ¬ s.size ≤ k := by omega
      by_cases q : isSp (atL s.data.toList k)
      · have hd : Hid (decide (isSp ((s[k]'hl).toNat : Int)) = true) := Lib.hid (by rw [hB.out]; simpa using q)
        have hv2 : v = spN s.data.toList (k + 1) := by rw [hV.out]; exact skN_step hll (by simpa using q)
        have HV2 := Lib.hid hv2
        clear hv2 q
        go_wp2
        go_quiet ((go_at_call 62; exact isSpace_at _ _ hd.out _ _))
        go_wp2
        go_roundg (s.size - (k + 1))
        case measure => omega
        case rel => exact ⟨k + 1, by omega, by omega, rfl, Lib.hid (hR.out.drewN _).inc, Lib.hid (grown_set (grown_drewN hG.out _) _ _), HV2⟩
      · have hd : Hid (decide (isSp ((s[k]'hl).toNat : Int)) = false) := Lib.hid (by rw [hB.out]; simpa using q)
        have hv2 : v = k := by rw [hV.out]; exact skN_at (fun z => q (by simpa using z.2))
        have HV2 := Lib.hid hv2
        clear hv2 q
        go_wp2
        go_quiet ((go_at_call 62; exact isSpace_at _ _ hd.out _ _))
        go_wp2
        go_end0
        exact ⟨rfl, by rw [HV2.out]; exact hR.out.drewN _, grown_drewN hG.out _⟩
    · have hv2 : v = k := by rw [hV.out]; exact skN_at (fun z => hl (by have := z.1; rwa [size_list] at this))
      have HV2 := Lib.hid hv2
      have hnl : s.size ≤ k := by omega
      clear hv2
      go_wp2
      go_quiet (fail)
      go_wp2
      go_end0
      exact ⟨rfl, by rw [HV2.out]; exact hR.out.drewN _, grown_drewN hG.out _⟩
/-- The place behind the digits from k on. -/
def isDigB (c : Int) : Bool := decide (48 ≤ c) && decide (c ≤ 57)
def dgN (l : List UInt8) (k : Nat) : Nat := skN isDigB l k
theorem dgN_range {l : List UInt8} {k : Nat} (h : k ≤ l.length) : k ≤ dgN l k ∧ dgN l k ≤ l.length := skN_range l.length k (by omega) h
/-- The place behind one digit or more, or 0. -/
def digP (l : List UInt8) (k : Nat) : Nat := if isDigB (seeP l k) = true then dgN l (k + 1) else 0
theorem digP_range {l : List UInt8} {k : Nat} (h : ¬ digP l k = 0) : k < digP l k ∧ digP l k ≤ l.length := by
  unfold digP at h ⊢
  by_cases q : isDigB (seeP l k) = true
  · rw [if_pos q]
    have := seeP_ltL (l := l) (k := k) (by intro z; rw [z] at q; exact absurd q (by decide))
    have := dgN_range (l := l) (k := k + 1) (by omega)
    omega
  · rw [if_neg q] at h; exact absurd rfl h
set_option maxRecDepth 100000 in
set_option maxHeartbeats 2000000 in
theorem digitsS (R : Nat) (s : ByteArray) (k0 : Nat) (tw lo : Bool) (f : Int) (op : Bool) (w : World) (h : RdAt w R s k0 tw lo f op) (hs : s.size ≤ 140737488355328) (hk0 : k0 ≤ s.size) :
    Calls Tryd.prog 91 #[.pointer (some ⟨R, 0, none⟩)] w (Rd (¬ digP s.data.toList k0 = 0) (digP s.data.toList k0) R s k0 tw lo f op w) := by
  by_cases hd : isDigB (seeP s.data.toList k0) = true
  · have hne : ¬ seeP s.data.toList k0 = 0 := fun z => by rw [z] at hd; exact absurd hd (by decide)
    have hlt := seeP_lt rfl hne
    have hn := need_ok R s k0 tw lo f op 48 57 w h hs hlt.1 (by rw [hlt.2]; unfold isDigB at hd; simp at hd; exact hd.1) (by rw [hlt.2]; unfold isDigB at hd; simp at hd; exact hd.2)
    have hv : digP s.data.toList k0 = dgN s.data.toList (k0 + 1) := by unfold digP; rw [if_pos hd]
    have hz : ¬ digP s.data.toList k0 = 0 := by
      have := dgN_range (l := s.data.toList) (k := k0 + 1) (by rw [size_list]; omega)
      rw [hv]; omega
    refine Calls.mono (?_ : Calls _ _ _ _ (ValPost (.bool true) R s (digP s.data.toList k0) tw lo f op w)) fun _ _ p => .inl ⟨hz, p⟩
    have hlt1 := hlt.1
    obtain ⟨v, hvv⟩ : ∃ v, v = digP s.data.toList k0 := ⟨_, rfl⟩
    rw [← hvv] at hv ⊢
    have HV := Lib.hid hv
    have HN := Lib.hid hn
    clear h hd hne hlt hn hv hz hvv
    go_enter Tryd.func91, Tryd.ntmps91
    go_wp2_with fail
    refine HN.out.mono ?_
    rintro e w1 ⟨rfl, h1, g1⟩
    have H1 := Lib.hid h1
    have G1 := Lib.hid g1
    clear h1 g1 HN
    go_wp2
    go_loopg [] (s.size - (k0 + 1)) (fun q wx => ∃ k : Nat, k0 < k ∧ k ≤ s.size ∧ q = s.size - k ∧ Hid (RdAt wx R s k tw lo f op) ∧ Hid (w.grownBy wx (some R)) ∧ Hid (v = dgN s.data.toList k))
    case atStart => exact ⟨k0 + 1, by omega, by omega, rfl, H1, G1, HV⟩
    case round =>
      clear H1 G1 HV
      obtain ⟨k, hkk, hks, rfl, hR, hG, hV⟩ := hrel
      have c0 := hR.out.c0
      have c1 := hR.out.c1
      have f1 := hR.out.fz 1
      by_cases hl : k < s.size
      · have hll : k < s.data.toList.length := by rw [size_list]; exact hl
        have hb : ((s[k]'hl).toNat : Int) = atL s.data.toList k := at_eq s k hl
        have hB := Lib.hid hb
        clear hb
        have hnl : ¬ s.size ≤ k := by omega
        by_cases q1 : 48 ≤ atL s.data.toList k
        · have e1 : decide (48 ≤ ((s[k]'hl).toNat : Int)) = true := by rw [hB.out]; simpa using q1
          by_cases q2 : atL s.data.toList k ≤ 57
          · have e2 : decide (((s[k]'hl).toNat : Int) ≤ 57) = true := by rw [hB.out]; simpa using q2
            have hv2 : v = dgN s.data.toList (k + 1) := by rw [hV.out]; exact skN_step hll (by unfold isDigB; simp; exact ⟨q1, q2⟩)
            have HV2 := Lib.hid hv2
            clear hv2 q1 q2
            go_wp2
            go_quiet (fail)
            go_wp2
            go_roundg (s.size - (k + 1))
            case measure => omega
            case rel => exact ⟨k + 1, by omega, by omega, rfl, Lib.hid (hR.out.drewN _).inc, Lib.hid (grown_set (grown_drewN hG.out _) _ _), HV2⟩
          · have e2 : decide (((s[k]'hl).toNat : Int) ≤ 57) = false := by rw [hB.out]; simpa using q2
            have hv2 : v = k := by rw [hV.out]; exact skN_at (fun z => q2 (by have := z.2; unfold isDigB at this; simp at this; exact this.2))
            have HV2 := Lib.hid hv2
            clear hv2 q1 q2
            go_wp2
            go_quiet (fail)
            go_wp2
            go_ret
            exact ⟨rfl, by rw [HV2.out]; exact hR.out.drewN _, grown_drewN hG.out _⟩
        · have e1 : decide (48 ≤ ((s[k]'hl).toNat : Int)) = false := by rw [hB.out]; simpa using q1
          have hv2 : v = k := by rw [hV.out]; exact skN_at (fun z => q1 (by have := z.2; unfold isDigB at this; simp at this; exact this.1))
          have HV2 := Lib.hid hv2
          clear hv2 q1
          go_wp2
          go_quiet (fail)
          go_wp2
          go_ret
          exact ⟨rfl, by rw [HV2.out]; exact hR.out.drewN _, grown_drewN hG.out _⟩
      · have hv2 : v = k := by rw [hV.out]; exact skN_at (fun z => hl (by have := z.1; rwa [size_list] at this))
        have HV2 := Lib.hid hv2
        have hnl : s.size ≤ k := by omega
        clear hv2
        go_wp2
        go_quiet (fail)
        go_wp2
        go_ret
        exact ⟨rfl, by rw [HV2.out]; exact hR.out.drewN _, grown_drewN hG.out _⟩
  · have hv : digP s.data.toList k0 = 0 := by unfold digP; rw [if_neg hd]
    have hn := need_no R s k0 tw lo f op 48 57 w h hs hk0 fun hl hz => hd (by unfold isDigB seeP; rw [size_list, if_pos hl]; simp; exact hz)
    refine Calls.mono (?_ : Calls _ _ _ _ (NoPost R s k0 tw lo op w)) fun _ _ p => .inr ⟨fun q => q hv, p⟩
    have HN := Lib.hid hn
    clear h hd hv hn
    go_enter Tryd.func91, Tryd.ntmps91
    go_wp2_with fail
    refine HN.out.mono ?_
    rintro e w1 ⟨rfl, h1, g1⟩
    have H1 := Lib.hid h1
    have G1 := Lib.hid g1
    clear h1 g1 HN
    go_wp2
    go_ret
    exact ⟨rfl, H1.out, G1.out⟩
end Go.Proofs.YtklncgmfbflooaaDoor
