/- jsonwire.CompareUTF16 at two texts of ASCII, walked (with cmp.Compare). -/
import Derived.Test.YtldcoaigecnpfaaDoorBytes
import Derived.WalkLawsBesides
import Derived.BigQuiet
import Derived.Deep.QuietTactic
import Derived.Deep.DeepFit
import Derived.Outline
import Derived.Lib.Hide
import Derived.Deep.LoopGhost
namespace Go.Proofs.YtldcoaigecnpfaaDoor
open Go.RowKit
def cmpI (x y : Int) : Int := if x < y then -1 else if y < x then 1 else 0
theorem cmp_int (x y : Int) (w : World) : Calls Tryd.prog 39 #[.int .i64 x, .int .i64 y] w fun e w' => e = .returned (.int .i64 (cmpI x y)) ∧ w' = w := by
  by_cases h : x < y
  · have e : cmpI x y = -1 := by unfold cmpI; rw [if_pos h]
    rw [e]
    clear e
    go_enter Tryd.func39, Tryd.ntmps39
    go_wp2
    go_ret
    exact ⟨rfl, rfl⟩
  · by_cases h2 : y < x
    · have e : cmpI x y = 1 := by unfold cmpI; rw [if_neg h, if_pos h2]
      rw [e]
      clear e
      go_enter Tryd.func39, Tryd.ntmps39
      go_wp2
      go_ret
      exact ⟨rfl, rfl⟩
    · have e : cmpI x y = 0 := by unfold cmpI; rw [if_neg h, if_neg h2]
      rw [e]
      clear e
      go_enter Tryd.func39, Tryd.ntmps39
      go_wp2
      go_ret
      exact ⟨rfl, rfl⟩
theorem cmp_byte (x y : Int) (w : World) : Calls Tryd.prog 40 #[.int .u8 x, .int .u8 y] w fun e w' => e = .returned (.int .i64 (cmpI x y)) ∧ w' = w := by
  by_cases h : x < y
  · have e : cmpI x y = -1 := by unfold cmpI; rw [if_pos h]
    rw [e]
    clear e
    go_enter Tryd.func40, Tryd.ntmps40
    go_wp2
    go_ret
    exact ⟨rfl, rfl⟩
  · by_cases h2 : y < x
    · have e : cmpI x y = 1 := by unfold cmpI; rw [if_neg h, if_pos h2]
      rw [e]
      clear e
      go_enter Tryd.func40, Tryd.ntmps40
      go_wp2
      go_ret
      exact ⟨rfl, rfl⟩
    · have e : cmpI x y = 0 := by unfold cmpI; rw [if_neg h, if_neg h2]
      rw [e]
      clear e
      go_enter Tryd.func40, Tryd.ntmps40
      go_wp2
      go_ret
      exact ⟨rfl, rfl⟩
theorem cmp_byte_at (x y : Int) (w : World) (n m : Nat) : Calls Tryd.prog 40 #[.int .u8 x, .int .u8 y] (w.drewN (n + m)) fun e w'' => e = .returned (.int .i64 (cmpI x y)) ∧ ∃ k, w'' = w.drewN (n + k) := (cmp_byte x y _).mono fun _ _ ⟨a, b⟩ => ⟨a, m, b⟩
/-- Byte by byte; the beginning of another one first. -/
def cmpL : List UInt8 → List UInt8 → Int
  | [], [] => 0
  | [], _ :: _ => -1
  | _ :: _, [] => 1
  | a :: x, b :: y => if a = b then cmpL x y else cmpI a.toNat b.toNat
theorem cmpL_less : ∀ a b : List UInt8, (decide (cmpL a b < 0) = Op.bytesLess a b) ∧ (decide (0 < cmpL a b) = (!Op.bytesLess a b && !(a == b)))
  | [], [] => by decide
  | [], b :: y => by simp [cmpL, Op.bytesLess]
  | a :: x, [] => by simp [cmpL, Op.bytesLess]
  | a :: x, b :: y => by
    obtain ⟨h1, h2⟩ := cmpL_less x y
    by_cases h : a = b
    · subst h
      have hn : (a < a) = False := by simp
      simp only [cmpL, if_true, Op.bytesLess, hn, decide_false, Bool.false_or, beq_self_eq_true, Bool.true_and, List.cons_beq_cons]
      exact ⟨h1, h2⟩
    · have hne : ¬ (a.toNat : Int) = (b.toNat : Int) := fun e => h (UInt8.toNat_inj.1 (by omega))
      have hlt : (a < b) = ((a.toNat : Int) < (b.toNat : Int)) := propext ⟨fun q => by have := UInt8.lt_iff_toNat_lt.1 q; omega, fun q => UInt8.lt_iff_toNat_lt.2 (by omega)⟩
      have hb : (a == b) = false := by simpa using h
      have hcb : (a :: x == b :: y) = false := by rw [List.cons_beq_cons, hb, Bool.false_and]
      simp only [cmpL, if_neg h, Op.bytesLess, hb, Bool.false_and, Bool.or_false, hcb, Bool.not_false, Bool.and_true, hlt]
      unfold cmpI
      by_cases q : (a.toNat : Int) < (b.toNat : Int)
      · rw [if_pos q]; simp [q]
      · rw [if_neg q, if_pos (by omega)]; simp [q]
def Asc (l : List UInt8) : Prop := ∀ c, c ∈ l → (c.toNat : Int) < 128
def ARel (C : Int) (l1 l2 : List UInt8) : Prop := cmpL l1 l2 = C ∧ Asc l1 ∧ Asc l2
/-- A slice with these bytes still in it. -/
def SlAt (w : World) (v : Value) (l : List UInt8) : Prop := ∃ g o q, v = .slice (some ⟨g, o, none⟩) l.length q ∧ l.length ≤ q ∧ q ≤ maxLen ∧ BytesAt w g o l
theorem SlAt.head {w : World} {g o : Nat} {a : UInt8} {r : List UInt8} (h : BytesAt w g o (a :: r)) : w.cell? ⟨g, o, none⟩ = some (.int .u8 (a.toNat : Int)) := h 0 (by simp)
theorem SlAt.next {w : World} {g o : Nat} {a : UInt8} {r : List UInt8} (h : BytesAt w g o (a :: r)) : BytesAt w g (o + 1) r := fun j hj => by
  have := h (j + 1) (by simp; omega)
  have e : o + (j + 1) = o + 1 + j := by omega
  rw [e] at this
  exact this
theorem SlAt.none_left {w : World} {g o : Nat} {l : List UInt8} (h : l.length = 0) : BytesAt w g o l := fun j hj => by omega
def CmpPost (c : Int) (w : World) (e : Ending) (w' : World) : Prop := e = .returned (.int .i64 c) ∧ ∃ n, w' = w.drewN n
set_option maxRecDepth 100000 in
set_option maxHeartbeats 4000000 in
theorem compare (v1 v2 : Value) (l1 l2 : List UInt8) (w : World) (h1 : SlAt w v1 l1) (h2 : SlAt w v2 l2) (hl1 : l1.length ≤ 2147483647) (hl2 : l2.length ≤ 2147483647) (ha1 : Asc l1) (ha2 : Asc l2) :
    Calls Tryd.prog 25 #[v1, v2] w (CmpPost (cmpL l1 l2) w) := by
  have hr : Hid (ARel (cmpL l1 l2) l1 l2) := ⟨rfl, ha1, ha2⟩
  generalize cmpL l1 l2 = C at hr ⊢
  clear ha1 ha2
  go_enter Tryd.func25, Tryd.ntmps25
  go_wp2
  go_loopg [0, 1] l1.length (fun m x y wx => ∃ (n : Nat) (r1 r2 : List UInt8) (g1 o1 q1 g2 o2 q2 : Nat), wx = w.drewN n ∧ m = r1.length ∧ x = .slice (some ⟨g1, o1, none⟩) r1.length q1 ∧ y = .slice (some ⟨g2, o2, none⟩) r2.length q2 ∧ r1.length ≤ q1 ∧ r2.length ≤ q2 ∧ r1.length ≤ 2147483647 ∧ r2.length ≤ 2147483647 ∧ q1 ≤ maxLen ∧ q2 ≤ maxLen ∧ Hid (BytesAt w g1 o1 r1) ∧ Hid (BytesAt w g2 o2 r2) ∧ Hid (ARel C r1 r2))
  case atStart =>
    obtain ⟨g1, o1, q1, rfl, k1, m1, b1⟩ := h1
    obtain ⟨g2, o2, q2, rfl, k2, m2, b2⟩ := h2
    exact ⟨0, l1, l2, g1, o1, q1, g2, o2, q2, rfl, rfl, rfl, rfl, k1, k2, hl1, hl2, m1, m2, b1, b2, hr⟩
  case round =>
    clear h1 h2 hl1 hl2 hr
    obtain ⟨n, r1, r2, g1, o1, q1, g2, o2, q2, rfl, rfl, rfl, rfl, k1, k2, z1, z2, m1, m2, b1, b2, hR⟩ := hrel
    cases r1 with
    | nil =>
      cases r2 with
      | nil =>
        have hC : Hid (0 = C) := hR.out.1
        have hci := Lib.hid (fun W => cmp_int 0 0 W)
        go_wp2_with fail
        refine (hci.out _).mono ?_
        rintro e w' ⟨rfl, rfl⟩
        go_wp2
        go_ret
        exact ⟨by rw [← hC.out]; rfl, n, rfl⟩
      | cons b t =>
        have hC : Hid (-1 = C) := hR.out.1
        have hci := Lib.hid (fun W => cmp_int 0 ((b :: t).length : Nat) W)
        have hlt : Hid (cmpI 0 ((b :: t).length : Nat) = -1) := by show _ = _; unfold cmpI; rw [if_pos (by simp only [List.length_cons]; omega)]
        generalize (b :: t).length = len at k2 z2 hci hlt
        go_wp2_with fail
        refine (hci.out _).mono ?_
        rintro e w' ⟨rfl, rfl⟩
        go_wp2
        go_ret
        exact ⟨by rw [← hC.out, ← hlt.out]; rfl, n, rfl⟩
    | cons a r =>
      cases r2 with
      | nil =>
        have hC : Hid (1 = C) := hR.out.1
        have hci := Lib.hid (fun W => cmp_int ((a :: r).length : Nat) 0 W)
        have hlt : Hid (cmpI ((a :: r).length : Nat) 0 = 1) := by show _ = _; unfold cmpI; rw [if_neg (by simp only [List.length_cons]; omega), if_pos (by simp only [List.length_cons]; omega)]
        have hpos : 0 < (a :: r).length := by simp
        have hne : (((a :: r).length : Int) == 0) = false := by simp; omega
        generalize (a :: r).length = len at k1 z1 hci hlt hpos hne
        go_wp2_with fail
        refine (hci.out _).mono ?_
        rintro e w' ⟨rfl, rfl⟩
        go_wp2
        go_ret
        exact ⟨by rw [← hC.out, ← hlt.out]; rfl, n, rfl⟩
      | cons b t =>
        have ca := SlAt.head b1.out
        have cb := SlAt.head b2.out
        have na := SlAt.next b1.out
        have nb := SlAt.next b2.out
        have ra : (a.toNat : Int) < 128 := hR.out.2.1 a (by simp)
        have rb : (b.toNat : Int) < 128 := hR.out.2.2 b (by simp)
        have NA := Lib.hid na
        have NB := Lib.hid nb
        have hla : (a :: r).length = r.length + 1 := rfl
        have hlb : (b :: t).length = t.length + 1 := rfl
        rw [hla] at k1 z1
        rw [hlb] at k2 z2
        have hne1 : (((r.length + 1 : Nat) : Int) == 0) = false := by simp; omega
        have hne2 : (((t.length + 1 : Nat) : Int) == 0) = false := by simp; omega
        clear na nb b1 b2
        by_cases hab : a = b
        · have hR' : Hid (ARel C r t) := by
            obtain ⟨e1, e2, e3⟩ := hR.out
            refine ⟨?_, fun c hc => e2 c (by simp [hc]), fun c hc => e3 c (by simp [hc])⟩
            rw [cmpL, if_pos hab] at e1
            exact e1
          subst hab
          rw [hla, hlb]
          have HL : Hid ((a :: r).length = r.length + 1) := hla
          clear hR hla hlb
          obtain ⟨x, hx⟩ : ∃ x : Int, x = (a.toNat : Int) := ⟨_, rfl⟩
          rw [← hx] at ca cb ra
          clear hx rb
          have hxx : (x != x) = false := by simp
          have p1 : (0 : Int) < ((r.length + 1 : Nat) : Int) := by omega
          have p2 : (0 : Int) < ((t.length + 1 : Nat) : Int) := by omega
          have p3 : (1 : Int) ≤ ((r.length + 1 : Nat) : Int) := by omega
          have p4 : (1 : Int) ≤ ((t.length + 1 : Nat) : Int) := by omega
          obtain ⟨u, hu⟩ : ∃ u, u = r.length + 1 := ⟨_, rfl⟩
          obtain ⟨v, hv⟩ : ∃ v, v = t.length + 1 := ⟨_, rfl⟩
          have HU : Hid (r.length = u - 1) := by show _ = _; omega
          have HV : Hid (t.length = v - 1) := by show _ = _; omega
          rw [← hu] at hne1 p1 p3 k1 z1 HL ⊢
          rw [← hv] at hne2 p2 p4 k2 z2 ⊢
          have hu1 : 1 ≤ u := by omega
          have hv1 : 1 ≤ v := by omega
          clear hu hv
          by_cases e1 : q1 = 1
          · have n1 : Hid (BytesAt w g1 o1 r) := SlAt.none_left (by have := HU.out; omega)
            subst e1
            by_cases e2 : q2 = 1
            · have n2 : Hid (BytesAt w g2 o2 t) := SlAt.none_left (by have := HV.out; omega)
              subst e2
              go_wp2
              go_quiet (fail)
              go_wp2
              go_quiet (fail)
              go_wp2
              go_roundg (r.length)
              case measure => rw [HL.out]; have := HU.out; omega
              case rel => exact ⟨_, r, t, g1, o1, 0, g2, o2, 0, by rw [World.drewN_drewN, World.drewN_drewN], rfl, by rw [HU.out]; (congr 1; omega), by rw [HV.out]; (congr 1; omega), by rw [HU.out]; omega, by rw [HV.out]; omega, by rw [HU.out]; omega, by rw [HV.out]; omega, by omega, by omega, n1, n2, hR'⟩
            · go_wp2
              go_quiet (fail)
              go_wp2
              go_quiet (fail)
              go_wp2
              go_roundg (r.length)
              case measure => rw [HL.out]; have := HU.out; omega
              case rel => exact ⟨_, r, t, g1, o1, 0, g2, o2 + 1, q2 - 1, by rw [World.drewN_drewN, World.drewN_drewN], rfl, by rw [HU.out]; (congr 1; omega), by rw [HV.out], by rw [HU.out]; omega, by rw [HV.out]; omega, by rw [HU.out]; omega, by rw [HV.out]; omega, by omega, by omega, n1, NB, hR'⟩
          · by_cases e2 : q2 = 1
            · have n2 : Hid (BytesAt w g2 o2 t) := SlAt.none_left (by have := HV.out; omega)
              subst e2
              go_wp2
              go_quiet (fail)
              go_wp2
              go_quiet (fail)
              go_wp2
              go_roundg (r.length)
              case measure => rw [HL.out]; have := HU.out; omega
              case rel => exact ⟨_, r, t, g1, o1 + 1, q1 - 1, g2, o2, 0, by rw [World.drewN_drewN, World.drewN_drewN], rfl, by rw [HU.out], by rw [HV.out]; (congr 1; omega), by rw [HU.out]; omega, by rw [HV.out]; omega, by rw [HU.out]; omega, by rw [HV.out]; omega, by omega, by omega, NA, n2, hR'⟩
            · go_wp2
              go_quiet (fail)
              go_wp2
              go_quiet (fail)
              go_wp2
              go_roundg (r.length)
              case measure => rw [HL.out]; have := HU.out; omega
              case rel => exact ⟨_, r, t, g1, o1 + 1, q1 - 1, g2, o2 + 1, q2 - 1, by rw [World.drewN_drewN, World.drewN_drewN], rfl, by rw [HU.out], by rw [HV.out], by rw [HU.out]; omega, by rw [HV.out]; omega, by rw [HU.out]; omega, by rw [HV.out]; omega, by omega, by omega, NA, NB, hR'⟩
        · have hC : Hid (cmpI (a.toNat : Int) (b.toNat : Int) = C) := by
            have e1 := hR.out.1
            rw [cmpL, if_neg hab] at e1
            exact e1
          have hne : ¬ (a.toNat : Int) = (b.toNat : Int) := fun e => hab (UInt8.toNat_inj.1 (by omega))
          rw [hla, hlb]
          clear hR hla hlb NA NB hab
          obtain ⟨x, hx⟩ : ∃ x : Int, x = (a.toNat : Int) := ⟨_, rfl⟩
          obtain ⟨y, hy⟩ : ∃ y : Int, y = (b.toNat : Int) := ⟨_, rfl⟩
          rw [← hx] at ca ra hC hne
          rw [← hy] at cb rb hC hne
          clear hx hy
          have hxx : (x != y) = true := by simpa using hne
          have p1 : (0 : Int) < ((r.length + 1 : Nat) : Int) := by omega
          have p2 : (0 : Int) < ((t.length + 1 : Nat) : Int) := by omega
          obtain ⟨u, hu⟩ : ∃ u, u = r.length + 1 := ⟨_, rfl⟩
          obtain ⟨v, hv⟩ : ∃ v, v = t.length + 1 := ⟨_, rfl⟩
          rw [← hu] at hne1 p1 k1 z1 ⊢
          rw [← hv] at hne2 p2 k2 z2 ⊢
          clear hu hv
          clear hne
          go_wp2
          go_quiet (fail)
          go_wp2
          rw [World.drewN_drewN]
          go_quiet ((go_at_call 40; exact cmp_byte_at _ _ _ _ _))
          go_wp2
          go_ret
          exact ⟨by rw [← hC.out]; rfl, _, by rw [World.drewN_drewN]⟩
end Go.Proofs.YtldcoaigecnpfaaDoor
