/- The reference's reader: hex, unit, escape, walked: whether they go on, and the place behind them. -/
import Derived.Test.YtldcoaigecnpfaaDoorGReader
import Derived.Test.YtldcoaigecnpfaaDoorGReadRune
import Derived.Deep.RegionWith
namespace Go.Proofs.YtldcoaigecnpfaaDoor
open Go.RowKit
def HexPost (x : Int) (w : World) (e : Ending) (w' : World) : Prop := e = .returned (.int .i64 x) ∧ w' = w
theorem hexPlain (c x : Int) (hx : hexv c = x) (h0 : 0 ≤ c) (h1 : c < 256) (w : World) : Calls Tryd.prog 84 #[.int .u8 c] w (HexPost x w) := by
  have HX := Lib.hid hx
  clear hx
  go_enter Tryd.func84, Tryd.ntmps84
  go_wp2
  all_goals (
    go_ret
    exact ⟨ret_i64 (by rw [← HX.out]; unfold hexv; (repeat' split) <;> omega), rfl⟩)
theorem hexv_range (c : Int) : -1 ≤ hexv c ∧ hexv c ≤ 15 := by unfold hexv; (repeat' split) <;> omega
theorem seeP_range (l : List UInt8) (k : Nat) : 0 ≤ seeP l k ∧ seeP l k < 256 := by
  unfold seeP
  split
  · exact atL_range l k
  · omega
/-- The hexadecimal digit at a place, or -1. -/
def hexAt (l : List UInt8) (k : Nat) : Int := hexv (seeP l k)
theorem hexAt_range (l : List UInt8) (k : Nat) : -1 ≤ hexAt l k ∧ hexAt l k ≤ 15 := hexv_range _
theorem hexAt_lt {s : ByteArray} {k : Nat} (h : 0 ≤ hexAt s.data.toList k) : k < s.size := by
  rcases Nat.lt_or_ge k s.size with q | q
  · exact q
  · exfalso
    have : seeP s.data.toList k = 0 := by unfold seeP; rw [if_neg (by rw [size_list]; omega)]
    unfold hexAt at h
    rw [this] at h
    exact absurd h (by decide)
/-- It went on to the place n, or it failed. -/
def Rd (ok : Prop) (n R : Nat) (s : ByteArray) (k : Nat) (tw lo : Bool) (f : Int) (op : Bool) (w : World) (e : Ending) (w' : World) : Prop :=
  (ok ∧ ValPost (.bool true) R s n tw lo f op w e w') ∨ (¬ ok ∧ NoPost R s k tw lo op w e w')
theorem NoPost.from {R : Nat} {s : ByteArray} {k k1 : Nat} {tw lo : Bool} {op : Bool} {w w1 : World} {e : Ending} {w' : World} (hg : w.grownBy w1 (some R)) (hk : k ≤ k1) (h : NoPost R s k1 tw lo op w1 e w') : NoPost R s k tw lo op w e w' := NoPost.trans hg hk h
theorem digit_place (R : Nat) (s : ByteArray) (k : Nat) (tw lo : Bool) (f : Int) (op : Bool) (w : World) (h : RdAt w R s k tw lo f op) (hs : s.size ≤ 140737488355328) (hk : k ≤ s.size) :
    Calls Tryd.prog 65 #[.pointer (some ⟨R, 0, none⟩)] w (fun e w' => ∃ c : Int, (0 ≤ c ∧ c < 256 ∧ hexv c = hexAt s.data.toList k) ∧ e = .returned (.int .u8 c) ∧ RdAt w' R s k tw lo f op ∧ w.grownBy w' (some R)) :=
  (see R s k tw lo f op w h hs hk).mono fun _ _ ⟨a, b, c⟩ => ⟨_, ⟨(seeP_range _ _).1, (seeP_range _ _).2, rfl⟩, a, b, c⟩
set_option maxRecDepth 100000 in
theorem hexS (R : Nat) (s : ByteArray) (k : Nat) (tw lo : Bool) (f : Int) (op : Bool) (a b x : Int) (w : World) (h : RdAt w R s k tw lo f op) (hs : s.size ≤ 140737488355328) (hk : k ≤ s.size) (ha : 0 ≤ a) (hx : hexAt s.data.toList k = x) :
    Calls Tryd.prog 83 #[.pointer (some ⟨R, 0, none⟩), .int .i64 a, .int .i64 b] w (Rd (a ≤ x ∧ x ≤ b) (k + 1) R s k tw lo f op w) := by
  have hsee := digit_place R s k tw lo f op w h hs hk
  have hlt : 0 ≤ x → k < s.size := fun q => hexAt_lt (by rw [hx]; exact q)
  rw [hx] at hsee
  have HS := Lib.hid hsee
  have HLT := Lib.hid hlt
  clear hsee hlt h hx
  go_enter Tryd.func83, Tryd.ntmps83
  go_wp2_with fail
  refine HS.out.mono ?_
  rintro e w' ⟨c, ⟨c0, c1, hc⟩, rfl, h1, h2⟩
  have H1 := Lib.hid h1
  have H2 := Lib.hid h2
  clear h1 h2
  have HX := Lib.hid (hexPlain c x hc c0 c1)
  clear hc c0 c1
  go_wp2_with fail
  refine (HX.out _).mono ?_
  rintro e w2 ⟨rfl, rfl⟩
  clear HX
  by_cases hab : x < a
  · go_wp2_with fail
    refine (failNo R s k tw lo f op 4 (by decide) _ H1.out hk).mono ?_
    rintro e w3 ⟨rfl, h3, h4⟩
    have H3 := Lib.hid h3
    have H4 := Lib.hid h4
    clear h3 h4
    go_wp2
    go_ret
    exact .inr ⟨by omega, rfl, H3.out, grown_trans H2.out H4.out⟩
  · by_cases hbb : b < x
    · go_wp2_with fail
      refine (failNo R s k tw lo f op 4 (by decide) _ H1.out hk).mono ?_
      rintro e w3 ⟨rfl, h3, h4⟩
      have H3 := Lib.hid h3
      have H4 := Lib.hid h4
      clear h3 h4
      go_wp2
      go_ret
      exact .inr ⟨by omega, rfl, H3.out, grown_trans H2.out H4.out⟩
    · have hks : k < s.size := HLT.out (by omega)
      have c1 := H1.out.c1
      have f1 := H1.out.fz 1
      go_wp2
      go_ret
      exact .inl ⟨by omega, rfl, H1.out.inc, grown_set H2.out _ _⟩
/-- Whether four digits are a unit. -/
def unitOk (lo low : Bool) (a b c d : Int) : Prop :=
  (0 ≤ a ∧ 0 ≤ b ∧ 0 ≤ c ∧ 0 ≤ d) ∧ (lo = false → low = true → a = 13 ∧ 12 ≤ b) ∧ (lo = false → low = false → a = 13 → b ≤ 11)
def UnitPost (ok : Prop) (half : Bool) (R : Nat) (s : ByteArray) (k : Nat) (tw lo : Bool) (f : Int) (op : Bool) (w : World) (e : Ending) (w' : World) : Prop :=
  (ok ∧ e = .returned (.tuple #[.bool true, .bool half]) ∧ RdAt w' R s (k + 4) tw lo f op ∧ w.grownBy w' (some R)) ∨
  (¬ ok ∧ e = .returned (.tuple #[.bool false, .bool false]) ∧ (∃ k' f', k ≤ k' ∧ k' ≤ s.size ∧ ¬ f' = 0 ∧ RdAt w' R s k' tw lo f' op) ∧ w.grownBy w' (some R))
set_option maxRecDepth 100000 in
set_option maxHeartbeats 4000000 in
theorem unitLoose (R : Nat) (s : ByteArray) (k : Nat) (tw : Bool) (f : Int) (op : Bool) (w : World) (x0 x1 x2 x3 : Int) (h : RdAt w R s k tw true f op) (hs : s.size ≤ 140737488355328) (hk : k ≤ s.size)
    (hd : hexAt s.data.toList k = x0 ∧ hexAt s.data.toList (k + 1) = x1 ∧ hexAt s.data.toList (k + 2) = x2 ∧ hexAt s.data.toList (k + 3) = x3) (low : Bool) :
    Calls Tryd.prog 77 #[.pointer (some ⟨R, 0, none⟩), .bool low] w (UnitPost (unitOk true low x0 x1 x2 x3) false R s k tw true f op w) := by
  have c3 := h.c3
  have H0 := Lib.hid h
  have HD := Lib.hid hd
  have G0 := Lib.hid (grown_refl w R)
  have r0 : x0 ≤ 15 := hd.1 ▸ (hexAt_range _ _).2
  have r1 : x1 ≤ 15 := by rw [← hd.2.1]; exact (hexAt_range _ _).2
  have r2 : x2 ≤ 15 := by rw [← hd.2.2.1]; exact (hexAt_range _ _).2
  have r3 : x3 ≤ 15 := by rw [← hd.2.2.2]; exact (hexAt_range _ _).2
  have SA : Hid (∀ (i j : Nat) (W : World), RdAt W R s j tw true f op → j = k + i → j ≤ s.size → Calls Tryd.prog 65 #[.pointer (some ⟨R, 0, none⟩)] W (fun e w' => ∃ c : Int, (0 ≤ c ∧ c < 256 ∧ hexv c = hexAt s.data.toList (k + i)) ∧ e = .returned (.int .u8 c) ∧ RdAt w' R s j tw true f op ∧ W.grownBy w' (some R))) := Lib.hid fun i j W a e b => by subst e; exact digit_place R s (k + i) tw true f op W a hs b
  have HA0 : Hid (∀ (a b : Int) (W : World), RdAt W R s k tw true f op → k ≤ s.size → 0 ≤ a → Calls Tryd.prog 83 #[.pointer (some ⟨R, 0, none⟩), .int .i64 a, .int .i64 b] W (Rd (a ≤ x0 ∧ x0 ≤ b) (k + 1) R s k tw true f op W)) := Lib.hid fun a b W x y z => hexS R s k tw true f op a b x0 W x hs y z hd.1
  have LT0 : Hid (0 ≤ x0 → k < s.size) := Lib.hid fun q => hexAt_lt (by rw [hd.1]; exact q)
  have HA1 : Hid (∀ (a b : Int) (W : World), RdAt W R s (k + 1) tw true f op → (k + 1) ≤ s.size → 0 ≤ a → Calls Tryd.prog 83 #[.pointer (some ⟨R, 0, none⟩), .int .i64 a, .int .i64 b] W (Rd (a ≤ x1 ∧ x1 ≤ b) ((k + 1) + 1) R s (k + 1) tw true f op W)) := Lib.hid fun a b W x y z => hexS R s (k + 1) tw true f op a b x1 W x hs y z hd.2.1
  have LT1 : Hid (0 ≤ x1 → (k + 1) < s.size) := Lib.hid fun q => hexAt_lt (by rw [hd.2.1]; exact q)
  have HA2 : Hid (∀ (a b : Int) (W : World), RdAt W R s (k + 2) tw true f op → (k + 2) ≤ s.size → 0 ≤ a → Calls Tryd.prog 83 #[.pointer (some ⟨R, 0, none⟩), .int .i64 a, .int .i64 b] W (Rd (a ≤ x2 ∧ x2 ≤ b) ((k + 2) + 1) R s (k + 2) tw true f op W)) := Lib.hid fun a b W x y z => hexS R s (k + 2) tw true f op a b x2 W x hs y z hd.2.2.1
  have LT2 : Hid (0 ≤ x2 → (k + 2) < s.size) := Lib.hid fun q => hexAt_lt (by rw [hd.2.2.1]; exact q)
  have HA3 : Hid (∀ (a b : Int) (W : World), RdAt W R s (k + 3) tw true f op → (k + 3) ≤ s.size → 0 ≤ a → Calls Tryd.prog 83 #[.pointer (some ⟨R, 0, none⟩), .int .i64 a, .int .i64 b] W (Rd (a ≤ x3 ∧ x3 ≤ b) ((k + 3) + 1) R s (k + 3) tw true f op W)) := Lib.hid fun a b W x y z => hexS R s (k + 3) tw true f op a b x3 W x hs y z hd.2.2.2
  have LT3 : Hid (0 ≤ x3 → (k + 3) < s.size) := Lib.hid fun q => hexAt_lt (by rw [hd.2.2.2]; exact q)
  clear h hs hd
  go_enter Tryd.func77, Tryd.ntmps77
  go_wp2_with fail
  refine (HA0.out _ _ _ H0.out (by omega) (by omega)).mono ?_
  rintro e w1 (⟨ok1, rfl, q1, q2⟩ | ⟨ok1, rfl, ⟨k1, f1, le1, hk1, N1, q1⟩, q2⟩)
  · skip
    have H1 := Lib.hid q1
    have G1 := Lib.hid (grown_trans G0.out q2)
    clear q1 q2
    have kk0 : k + 0 < s.size := LT0.out (by omega)
    go_wp2_with fail
    refine (HA1.out _ _ _ H1.out (by omega) (by omega)).mono ?_
    rintro e w2 (⟨ok2, rfl, q1, q2⟩ | ⟨ok2, rfl, ⟨k2, f2, le2, hk2, N2, q1⟩, q2⟩)
    · skip
      have H2 := Lib.hid q1
      have G2 := Lib.hid (grown_trans G1.out q2)
      clear q1 q2
      have kk1 : k + 1 < s.size := LT1.out (by omega)
      go_wp2_with fail
      refine (HA2.out _ _ _ H2.out (by omega) (by omega)).mono ?_
      rintro e w3 (⟨ok3, rfl, q1, q2⟩ | ⟨ok3, rfl, ⟨k3, f3, le3, hk3, N3, q1⟩, q2⟩)
      · skip
        have H3 := Lib.hid q1
        have G3 := Lib.hid (grown_trans G2.out q2)
        clear q1 q2
        have kk2 : k + 2 < s.size := LT2.out (by omega)
        go_wp2_with fail
        refine (HA3.out _ _ _ H3.out (by omega) (by omega)).mono ?_
        rintro e w4 (⟨ok4, rfl, q1, q2⟩ | ⟨ok4, rfl, ⟨k4, f4, le4, hk4, N4, q1⟩, q2⟩)
        · skip
          have H4 := Lib.hid q1
          have G4 := Lib.hid (grown_trans G3.out q2)
          clear q1 q2
          have kk3 : k + 3 < s.size := LT3.out (by omega)
          go_wp2
          go_ret2
          exact .inl ⟨⟨⟨by omega, by omega, by omega, by omega⟩, by simp, by simp⟩, rfl, H4.out, G4.out⟩
        · skip
          have H4 := Lib.hid q1
          have G4 := Lib.hid (grown_trans G3.out q2)
          clear q1 q2
          go_wp2
          go_ret2
          exact .inr ⟨fun q => absurd q.1 (by omega), rfl, ⟨k4, f4, by omega, hk4, N4, H4.out⟩, G4.out⟩
      · skip
        have H3 := Lib.hid q1
        have G3 := Lib.hid (grown_trans G2.out q2)
        clear q1 q2
        go_wp2
        go_ret2
        exact .inr ⟨fun q => absurd q.1 (by omega), rfl, ⟨k3, f3, by omega, hk3, N3, H3.out⟩, G3.out⟩
    · skip
      have H2 := Lib.hid q1
      have G2 := Lib.hid (grown_trans G1.out q2)
      clear q1 q2
      go_wp2
      go_ret2
      exact .inr ⟨fun q => absurd q.1 (by omega), rfl, ⟨k2, f2, by omega, hk2, N2, H2.out⟩, G2.out⟩
  · skip
    have H1 := Lib.hid q1
    have G1 := Lib.hid (grown_trans G0.out q2)
    clear q1 q2
    go_wp2
    go_ret2
    exact .inr ⟨fun q => absurd q.1 (by omega), rfl, ⟨k1, f1, by omega, hk1, N1, H1.out⟩, G1.out⟩
theorem negLow {a b c d : Int} (q : unitOk false true a b c d) (h : ¬ ((0 ≤ a ∧ 0 ≤ b ∧ 0 ≤ c ∧ 0 ≤ d) ∧ a = 13 ∧ 12 ≤ b)) : False := h ⟨q.1, q.2.1 rfl rfl⟩
theorem negHigh {a b c d : Int} (q : unitOk false false a b c d) (h : ¬ ((0 ≤ a ∧ 0 ≤ b ∧ 0 ≤ c ∧ 0 ≤ d) ∧ (a = 13 → b ≤ 11))) : False := h ⟨q.1, q.2.2 rfl rfl⟩
set_option maxRecDepth 100000 in
set_option maxHeartbeats 4000000 in
theorem unitLow (R : Nat) (s : ByteArray) (k : Nat) (tw : Bool) (f : Int) (op : Bool) (w : World) (x0 x1 x2 x3 : Int) (h : RdAt w R s k tw false f op) (hs : s.size ≤ 140737488355328) (hk : k ≤ s.size)
    (hd : hexAt s.data.toList k = x0 ∧ hexAt s.data.toList (k + 1) = x1 ∧ hexAt s.data.toList (k + 2) = x2 ∧ hexAt s.data.toList (k + 3) = x3)  :
    Calls Tryd.prog 77 #[.pointer (some ⟨R, 0, none⟩), .bool true] w (UnitPost (unitOk false true x0 x1 x2 x3) false R s k tw false f op w) := by
  have c3 := h.c3
  have H0 := Lib.hid h
  have HD := Lib.hid hd
  have G0 := Lib.hid (grown_refl w R)
  have r0 : x0 ≤ 15 := hd.1 ▸ (hexAt_range _ _).2
  have r1 : x1 ≤ 15 := by rw [← hd.2.1]; exact (hexAt_range _ _).2
  have r2 : x2 ≤ 15 := by rw [← hd.2.2.1]; exact (hexAt_range _ _).2
  have r3 : x3 ≤ 15 := by rw [← hd.2.2.2]; exact (hexAt_range _ _).2
  have SA : Hid (∀ (i j : Nat) (W : World), RdAt W R s j tw false f op → j = k + i → j ≤ s.size → Calls Tryd.prog 65 #[.pointer (some ⟨R, 0, none⟩)] W (fun e w' => ∃ c : Int, (0 ≤ c ∧ c < 256 ∧ hexv c = hexAt s.data.toList (k + i)) ∧ e = .returned (.int .u8 c) ∧ RdAt w' R s j tw false f op ∧ W.grownBy w' (some R))) := Lib.hid fun i j W a e b => by subst e; exact digit_place R s (k + i) tw false f op W a hs b
  have HA0 : Hid (∀ (a b : Int) (W : World), RdAt W R s k tw false f op → k ≤ s.size → 0 ≤ a → Calls Tryd.prog 83 #[.pointer (some ⟨R, 0, none⟩), .int .i64 a, .int .i64 b] W (Rd (a ≤ x0 ∧ x0 ≤ b) (k + 1) R s k tw false f op W)) := Lib.hid fun a b W x y z => hexS R s k tw false f op a b x0 W x hs y z hd.1
  have LT0 : Hid (0 ≤ x0 → k < s.size) := Lib.hid fun q => hexAt_lt (by rw [hd.1]; exact q)
  have HA1 : Hid (∀ (a b : Int) (W : World), RdAt W R s (k + 1) tw false f op → (k + 1) ≤ s.size → 0 ≤ a → Calls Tryd.prog 83 #[.pointer (some ⟨R, 0, none⟩), .int .i64 a, .int .i64 b] W (Rd (a ≤ x1 ∧ x1 ≤ b) ((k + 1) + 1) R s (k + 1) tw false f op W)) := Lib.hid fun a b W x y z => hexS R s (k + 1) tw false f op a b x1 W x hs y z hd.2.1
  have LT1 : Hid (0 ≤ x1 → (k + 1) < s.size) := Lib.hid fun q => hexAt_lt (by rw [hd.2.1]; exact q)
  have HA2 : Hid (∀ (a b : Int) (W : World), RdAt W R s (k + 2) tw false f op → (k + 2) ≤ s.size → 0 ≤ a → Calls Tryd.prog 83 #[.pointer (some ⟨R, 0, none⟩), .int .i64 a, .int .i64 b] W (Rd (a ≤ x2 ∧ x2 ≤ b) ((k + 2) + 1) R s (k + 2) tw false f op W)) := Lib.hid fun a b W x y z => hexS R s (k + 2) tw false f op a b x2 W x hs y z hd.2.2.1
  have LT2 : Hid (0 ≤ x2 → (k + 2) < s.size) := Lib.hid fun q => hexAt_lt (by rw [hd.2.2.1]; exact q)
  have HA3 : Hid (∀ (a b : Int) (W : World), RdAt W R s (k + 3) tw false f op → (k + 3) ≤ s.size → 0 ≤ a → Calls Tryd.prog 83 #[.pointer (some ⟨R, 0, none⟩), .int .i64 a, .int .i64 b] W (Rd (a ≤ x3 ∧ x3 ≤ b) ((k + 3) + 1) R s (k + 3) tw false f op W)) := Lib.hid fun a b W x y z => hexS R s (k + 3) tw false f op a b x3 W x hs y z hd.2.2.2
  have LT3 : Hid (0 ≤ x3 → (k + 3) < s.size) := Lib.hid fun q => hexAt_lt (by rw [hd.2.2.2]; exact q)
  clear h hs hd
  go_enter Tryd.func77, Tryd.ntmps77
  go_wp2_with fail
  refine (SA.out 0 (k) _ H0.out rfl (by omega)).mono ?_
  rintro e w1 ⟨c1, ⟨p1, p2, p3⟩, rfl, q1, q2⟩
  have H1 := Lib.hid q1
  have G1 := Lib.hid (grown_trans G0.out q2)
  have HX1 := Lib.hid (hexPlain c1 x0 (p3.trans HD.out.1) p1 p2)
  clear q1 q2 p1 p2 p3
  go_wp2_with fail
  refine (HX1.out _).mono ?_
  rintro e wz ⟨rfl, rfl⟩
  clear HX1
  go_wp2_with fail
  refine (HA0.out _ _ _ H1.out (by omega) (by omega)).mono ?_
  rintro e w2 (⟨ok2, rfl, q1, q2⟩ | ⟨ok2, rfl, ⟨k2, f2, le2, hk2, N2, q1⟩, q2⟩)
  · skip
    have H2 := Lib.hid q1
    have G2 := Lib.hid (grown_trans G1.out q2)
    clear q1 q2
    have kk0 : k + 0 < s.size := LT0.out (by omega)
    go_wp2_with fail
    refine (SA.out 1 (k + 1) _ H2.out rfl (by omega)).mono ?_
    rintro e w3 ⟨c3, ⟨p1, p2, p3⟩, rfl, q1, q2⟩
    have H3 := Lib.hid q1
    have G3 := Lib.hid (grown_trans G2.out q2)
    have HX3 := Lib.hid (hexPlain c3 x1 (p3.trans HD.out.2.1) p1 p2)
    clear q1 q2 p1 p2 p3
    go_wp2_with fail
    refine (HX3.out _).mono ?_
    rintro e wz ⟨rfl, rfl⟩
    clear HX3
    go_wp2_with fail
    refine (HA1.out _ _ _ H3.out (by omega) (by omega)).mono ?_
    rintro e w4 (⟨ok4, rfl, q1, q2⟩ | ⟨ok4, rfl, ⟨k4, f4, le4, hk4, N4, q1⟩, q2⟩)
    · skip
      have H4 := Lib.hid q1
      have G4 := Lib.hid (grown_trans G3.out q2)
      clear q1 q2
      have kk1 : k + 1 < s.size := LT1.out (by omega)
      go_wp2_with fail
      refine (HA2.out _ _ _ H4.out (by omega) (by omega)).mono ?_
      rintro e w5 (⟨ok5, rfl, q1, q2⟩ | ⟨ok5, rfl, ⟨k5, f5, le5, hk5, N5, q1⟩, q2⟩)
      · skip
        have H5 := Lib.hid q1
        have G5 := Lib.hid (grown_trans G4.out q2)
        clear q1 q2
        have kk2 : k + 2 < s.size := LT2.out (by omega)
        go_wp2_with fail
        refine (HA3.out _ _ _ H5.out (by omega) (by omega)).mono ?_
        rintro e w6 (⟨ok6, rfl, q1, q2⟩ | ⟨ok6, rfl, ⟨k6, f6, le6, hk6, N6, q1⟩, q2⟩)
        · skip
          have H6 := Lib.hid q1
          have G6 := Lib.hid (grown_trans G5.out q2)
          clear q1 q2
          have kk3 : k + 3 < s.size := LT3.out (by omega)
          go_wp2
          go_ret2
          exact .inl ⟨⟨⟨by omega, by omega, by omega, by omega⟩, fun _ _ => ⟨by omega, by omega⟩, by simp⟩, rfl, H6.out, G6.out⟩
        · skip
          have H6 := Lib.hid q1
          have G6 := Lib.hid (grown_trans G5.out q2)
          clear q1 q2
          go_wp2
          go_ret2
          exact .inr ⟨fun q => negLow q (by omega), rfl, ⟨k6, f6, by omega, hk6, N6, H6.out⟩, G6.out⟩
      · skip
        have H5 := Lib.hid q1
        have G5 := Lib.hid (grown_trans G4.out q2)
        clear q1 q2
        go_wp2
        go_ret2
        exact .inr ⟨fun q => negLow q (by omega), rfl, ⟨k5, f5, by omega, hk5, N5, H5.out⟩, G5.out⟩
    · skip
      have H4 := Lib.hid q1
      have G4 := Lib.hid (grown_trans G3.out q2)
      clear q1 q2
      go_wp2
      go_ret2
      exact .inr ⟨fun q => negLow q (by omega), rfl, ⟨k4, f4, by omega, hk4, N4, H4.out⟩, G4.out⟩
  · skip
    have H2 := Lib.hid q1
    have G2 := Lib.hid (grown_trans G1.out q2)
    clear q1 q2
    go_wp2
    go_ret2
    exact .inr ⟨fun q => negLow q (by omega), rfl, ⟨k2, f2, by omega, hk2, N2, H2.out⟩, G2.out⟩
set_option maxRecDepth 100000 in
set_option maxHeartbeats 4000000 in
theorem unitHigh13 (R : Nat) (s : ByteArray) (k : Nat) (tw : Bool) (f : Int) (op : Bool) (w : World) (x1 x2 x3 : Int) (h : RdAt w R s k tw false f op) (hs : s.size ≤ 140737488355328) (hk : k ≤ s.size)
    (hd : hexAt s.data.toList k = (13 : Int) ∧ hexAt s.data.toList (k + 1) = x1 ∧ hexAt s.data.toList (k + 2) = x2 ∧ hexAt s.data.toList (k + 3) = x3) (hf : Bool) (HF : Hid (hf = decide (8 ≤ x1))) :
    Calls Tryd.prog 77 #[.pointer (some ⟨R, 0, none⟩), .bool false] w (UnitPost (unitOk false false (13 : Int) x1 x2 x3) hf R s k tw false f op w) := by
  have c3 := h.c3
  have H0 := Lib.hid h
  have HD := Lib.hid hd
  have G0 := Lib.hid (grown_refl w R)
  have r0 : (13 : Int) ≤ 15 := hd.1 ▸ (hexAt_range _ _).2
  have r1 : x1 ≤ 15 := by rw [← hd.2.1]; exact (hexAt_range _ _).2
  have r2 : x2 ≤ 15 := by rw [← hd.2.2.1]; exact (hexAt_range _ _).2
  have r3 : x3 ≤ 15 := by rw [← hd.2.2.2]; exact (hexAt_range _ _).2
  have SA : Hid (∀ (i j : Nat) (W : World), RdAt W R s j tw false f op → j = k + i → j ≤ s.size → Calls Tryd.prog 65 #[.pointer (some ⟨R, 0, none⟩)] W (fun e w' => ∃ c : Int, (0 ≤ c ∧ c < 256 ∧ hexv c = hexAt s.data.toList (k + i)) ∧ e = .returned (.int .u8 c) ∧ RdAt w' R s j tw false f op ∧ W.grownBy w' (some R))) := Lib.hid fun i j W a e b => by subst e; exact digit_place R s (k + i) tw false f op W a hs b
  have HA0 : Hid (∀ (a b : Int) (W : World), RdAt W R s k tw false f op → k ≤ s.size → 0 ≤ a → Calls Tryd.prog 83 #[.pointer (some ⟨R, 0, none⟩), .int .i64 a, .int .i64 b] W (Rd (a ≤ (13 : Int) ∧ (13 : Int) ≤ b) (k + 1) R s k tw false f op W)) := Lib.hid fun a b W x y z => hexS R s k tw false f op a b (13 : Int) W x hs y z hd.1
  have LT0 : Hid (0 ≤ (13 : Int) → k < s.size) := Lib.hid fun q => hexAt_lt (by rw [hd.1]; exact q)
  have HA1 : Hid (∀ (a b : Int) (W : World), RdAt W R s (k + 1) tw false f op → (k + 1) ≤ s.size → 0 ≤ a → Calls Tryd.prog 83 #[.pointer (some ⟨R, 0, none⟩), .int .i64 a, .int .i64 b] W (Rd (a ≤ x1 ∧ x1 ≤ b) ((k + 1) + 1) R s (k + 1) tw false f op W)) := Lib.hid fun a b W x y z => hexS R s (k + 1) tw false f op a b x1 W x hs y z hd.2.1
  have LT1 : Hid (0 ≤ x1 → (k + 1) < s.size) := Lib.hid fun q => hexAt_lt (by rw [hd.2.1]; exact q)
  have HA2 : Hid (∀ (a b : Int) (W : World), RdAt W R s (k + 2) tw false f op → (k + 2) ≤ s.size → 0 ≤ a → Calls Tryd.prog 83 #[.pointer (some ⟨R, 0, none⟩), .int .i64 a, .int .i64 b] W (Rd (a ≤ x2 ∧ x2 ≤ b) ((k + 2) + 1) R s (k + 2) tw false f op W)) := Lib.hid fun a b W x y z => hexS R s (k + 2) tw false f op a b x2 W x hs y z hd.2.2.1
  have LT2 : Hid (0 ≤ x2 → (k + 2) < s.size) := Lib.hid fun q => hexAt_lt (by rw [hd.2.2.1]; exact q)
  have HA3 : Hid (∀ (a b : Int) (W : World), RdAt W R s (k + 3) tw false f op → (k + 3) ≤ s.size → 0 ≤ a → Calls Tryd.prog 83 #[.pointer (some ⟨R, 0, none⟩), .int .i64 a, .int .i64 b] W (Rd (a ≤ x3 ∧ x3 ≤ b) ((k + 3) + 1) R s (k + 3) tw false f op W)) := Lib.hid fun a b W x y z => hexS R s (k + 3) tw false f op a b x3 W x hs y z hd.2.2.2
  have LT3 : Hid (0 ≤ x3 → (k + 3) < s.size) := Lib.hid fun q => hexAt_lt (by rw [hd.2.2.2]; exact q)
  clear h hs hd

  go_enter Tryd.func77, Tryd.ntmps77
  go_wp2_with fail
  refine (SA.out 0 (k) _ H0.out rfl (by omega)).mono ?_
  rintro e w1 ⟨c1, ⟨p1, p2, p3⟩, rfl, q1, q2⟩
  have H1 := Lib.hid q1
  have G1 := Lib.hid (grown_trans G0.out q2)
  have HX1 := Lib.hid (hexPlain c1 (13 : Int) (p3.trans HD.out.1) p1 p2)
  clear q1 q2 p1 p2 p3
  go_wp2_with fail
  refine (HX1.out _).mono ?_
  rintro e wz ⟨rfl, rfl⟩
  clear HX1
  go_wp2_with fail
  refine (HA0.out _ _ _ H1.out (by omega) (by omega)).mono ?_
  rintro e w2 (⟨ok2, rfl, q1, q2⟩ | ⟨ok2, rfl, ⟨k2, f2, le2, hk2, N2, q1⟩, q2⟩)
  · skip
    have H2 := Lib.hid q1
    have G2 := Lib.hid (grown_trans G1.out q2)
    clear q1 q2
    have kk0 : k + 0 < s.size := LT0.out (by omega)
    go_wp2_with fail
    refine (SA.out 1 (k + 1) _ H2.out rfl (by omega)).mono ?_
    rintro e w3 ⟨c3, ⟨p1, p2, p3⟩, rfl, q1, q2⟩
    have H3 := Lib.hid q1
    have G3 := Lib.hid (grown_trans G2.out q2)
    have HX3 := Lib.hid (hexPlain c3 x1 (p3.trans HD.out.2.1) p1 p2)
    clear q1 q2 p1 p2 p3
    go_wp2_with fail
    refine (HX3.out _).mono ?_
    rintro e wz ⟨rfl, rfl⟩
    clear HX3
    go_wp2_with fail
    refine (HA1.out _ _ _ H3.out (by omega) (by omega)).mono ?_
    rintro e w4 (⟨ok4, rfl, q1, q2⟩ | ⟨ok4, rfl, ⟨k4, f4, le4, hk4, N4, q1⟩, q2⟩)
    · skip
      have H4 := Lib.hid q1
      have G4 := Lib.hid (grown_trans G3.out q2)
      clear q1 q2
      have kk1 : k + 1 < s.size := LT1.out (by omega)
      go_wp2_with fail
      refine (HA2.out _ _ _ H4.out (by omega) (by omega)).mono ?_
      rintro e w5 (⟨ok5, rfl, q1, q2⟩ | ⟨ok5, rfl, ⟨k5, f5, le5, hk5, N5, q1⟩, q2⟩)
      · skip
        have H5 := Lib.hid q1
        have G5 := Lib.hid (grown_trans G4.out q2)
        clear q1 q2
        have kk2 : k + 2 < s.size := LT2.out (by omega)
        go_wp2_with fail
        refine (HA3.out _ _ _ H5.out (by omega) (by omega)).mono ?_
        rintro e w6 (⟨ok6, rfl, q1, q2⟩ | ⟨ok6, rfl, ⟨k6, f6, le6, hk6, N6, q1⟩, q2⟩)
        · skip
          have H6 := Lib.hid q1
          have G6 := Lib.hid (grown_trans G5.out q2)
          clear q1 q2
          have kk3 : k + 3 < s.size := LT3.out (by omega)
          by_cases h8 : 8 ≤ x1
          · go_wp2
            go_ret2
            have E : true = hf := by rw [HF.out]; symm; simpa using h8
            exact .inl ⟨⟨⟨by omega, by omega, by omega, by omega⟩, by simp, fun _ _ _ => by omega⟩, congrArg (fun b => Ending.returned (Value.tuple #[.bool true, .bool b])) E, H6.out, G6.out⟩
          · go_wp2
            go_ret2
            have E : decide (8 ≤ x1) = hf := by rw [HF.out]
            exact .inl ⟨⟨⟨by omega, by omega, by omega, by omega⟩, by simp, fun _ _ _ => by omega⟩, congrArg (fun b => Ending.returned (Value.tuple #[.bool true, .bool b])) E, H6.out, G6.out⟩
        · skip
          have H6 := Lib.hid q1
          have G6 := Lib.hid (grown_trans G5.out q2)
          clear q1 q2
          go_wp2
          go_ret2
          exact .inr ⟨fun q => negHigh q (by omega), rfl, ⟨k6, f6, by omega, hk6, N6, H6.out⟩, G6.out⟩
      · skip
        have H5 := Lib.hid q1
        have G5 := Lib.hid (grown_trans G4.out q2)
        clear q1 q2
        go_wp2
        go_ret2
        exact .inr ⟨fun q => negHigh q (by omega), rfl, ⟨k5, f5, by omega, hk5, N5, H5.out⟩, G5.out⟩
    · skip
      have H4 := Lib.hid q1
      have G4 := Lib.hid (grown_trans G3.out q2)
      clear q1 q2
      go_wp2
      go_ret2
      exact .inr ⟨fun q => negHigh q (by omega), rfl, ⟨k4, f4, by omega, hk4, N4, H4.out⟩, G4.out⟩
  · skip
    have H2 := Lib.hid q1
    have G2 := Lib.hid (grown_trans G1.out q2)
    clear q1 q2
    go_wp2
    go_ret2
    exact .inr ⟨fun q => negHigh q (by omega), rfl, ⟨k2, f2, by omega, hk2, N2, H2.out⟩, G2.out⟩
set_option maxRecDepth 100000 in
set_option maxHeartbeats 4000000 in
theorem unitHigh (R : Nat) (s : ByteArray) (k : Nat) (tw : Bool) (f : Int) (op : Bool) (w : World) (x0 x1 x2 x3 : Int) (h : RdAt w R s k tw false f op) (hs : s.size ≤ 140737488355328) (hk : k ≤ s.size)
    (hd : hexAt s.data.toList k = x0 ∧ hexAt s.data.toList (k + 1) = x1 ∧ hexAt s.data.toList (k + 2) = x2 ∧ hexAt s.data.toList (k + 3) = x3) (h13 : ¬ x0 = 13) :
    Calls Tryd.prog 77 #[.pointer (some ⟨R, 0, none⟩), .bool false] w (UnitPost (unitOk false false x0 x1 x2 x3) false R s k tw false f op w) := by
  have c3 := h.c3
  have H0 := Lib.hid h
  have HD := Lib.hid hd
  have G0 := Lib.hid (grown_refl w R)
  have r0 : x0 ≤ 15 := hd.1 ▸ (hexAt_range _ _).2
  have r1 : x1 ≤ 15 := by rw [← hd.2.1]; exact (hexAt_range _ _).2
  have r2 : x2 ≤ 15 := by rw [← hd.2.2.1]; exact (hexAt_range _ _).2
  have r3 : x3 ≤ 15 := by rw [← hd.2.2.2]; exact (hexAt_range _ _).2
  have SA : Hid (∀ (i j : Nat) (W : World), RdAt W R s j tw false f op → j = k + i → j ≤ s.size → Calls Tryd.prog 65 #[.pointer (some ⟨R, 0, none⟩)] W (fun e w' => ∃ c : Int, (0 ≤ c ∧ c < 256 ∧ hexv c = hexAt s.data.toList (k + i)) ∧ e = .returned (.int .u8 c) ∧ RdAt w' R s j tw false f op ∧ W.grownBy w' (some R))) := Lib.hid fun i j W a e b => by subst e; exact digit_place R s (k + i) tw false f op W a hs b
  have HA0 : Hid (∀ (a b : Int) (W : World), RdAt W R s k tw false f op → k ≤ s.size → 0 ≤ a → Calls Tryd.prog 83 #[.pointer (some ⟨R, 0, none⟩), .int .i64 a, .int .i64 b] W (Rd (a ≤ x0 ∧ x0 ≤ b) (k + 1) R s k tw false f op W)) := Lib.hid fun a b W x y z => hexS R s k tw false f op a b x0 W x hs y z hd.1
  have LT0 : Hid (0 ≤ x0 → k < s.size) := Lib.hid fun q => hexAt_lt (by rw [hd.1]; exact q)
  have HA1 : Hid (∀ (a b : Int) (W : World), RdAt W R s (k + 1) tw false f op → (k + 1) ≤ s.size → 0 ≤ a → Calls Tryd.prog 83 #[.pointer (some ⟨R, 0, none⟩), .int .i64 a, .int .i64 b] W (Rd (a ≤ x1 ∧ x1 ≤ b) ((k + 1) + 1) R s (k + 1) tw false f op W)) := Lib.hid fun a b W x y z => hexS R s (k + 1) tw false f op a b x1 W x hs y z hd.2.1
  have LT1 : Hid (0 ≤ x1 → (k + 1) < s.size) := Lib.hid fun q => hexAt_lt (by rw [hd.2.1]; exact q)
  have HA2 : Hid (∀ (a b : Int) (W : World), RdAt W R s (k + 2) tw false f op → (k + 2) ≤ s.size → 0 ≤ a → Calls Tryd.prog 83 #[.pointer (some ⟨R, 0, none⟩), .int .i64 a, .int .i64 b] W (Rd (a ≤ x2 ∧ x2 ≤ b) ((k + 2) + 1) R s (k + 2) tw false f op W)) := Lib.hid fun a b W x y z => hexS R s (k + 2) tw false f op a b x2 W x hs y z hd.2.2.1
  have LT2 : Hid (0 ≤ x2 → (k + 2) < s.size) := Lib.hid fun q => hexAt_lt (by rw [hd.2.2.1]; exact q)
  have HA3 : Hid (∀ (a b : Int) (W : World), RdAt W R s (k + 3) tw false f op → (k + 3) ≤ s.size → 0 ≤ a → Calls Tryd.prog 83 #[.pointer (some ⟨R, 0, none⟩), .int .i64 a, .int .i64 b] W (Rd (a ≤ x3 ∧ x3 ≤ b) ((k + 3) + 1) R s (k + 3) tw false f op W)) := Lib.hid fun a b W x y z => hexS R s (k + 3) tw false f op a b x3 W x hs y z hd.2.2.2
  have LT3 : Hid (0 ≤ x3 → (k + 3) < s.size) := Lib.hid fun q => hexAt_lt (by rw [hd.2.2.2]; exact q)
  clear h hs hd
  have hn13 : (x0 == 13) = false := by simpa using h13
  go_enter Tryd.func77, Tryd.ntmps77
  go_wp2_with fail
  refine (SA.out 0 (k) _ H0.out rfl (by omega)).mono ?_
  rintro e w1 ⟨c1, ⟨p1, p2, p3⟩, rfl, q1, q2⟩
  have H1 := Lib.hid q1
  have G1 := Lib.hid (grown_trans G0.out q2)
  have HX1 := Lib.hid (hexPlain c1 x0 (p3.trans HD.out.1) p1 p2)
  clear q1 q2 p1 p2 p3
  go_wp2_with fail
  refine (HX1.out _).mono ?_
  rintro e wz ⟨rfl, rfl⟩
  clear HX1
  go_wp2_with fail
  refine (HA0.out _ _ _ H1.out (by omega) (by omega)).mono ?_
  rintro e w2 (⟨ok2, rfl, q1, q2⟩ | ⟨ok2, rfl, ⟨k2, f2, le2, hk2, N2, q1⟩, q2⟩)
  · skip
    have H2 := Lib.hid q1
    have G2 := Lib.hid (grown_trans G1.out q2)
    clear q1 q2
    have kk0 : k + 0 < s.size := LT0.out (by omega)
    go_wp2_with fail
    refine (SA.out 1 (k + 1) _ H2.out rfl (by omega)).mono ?_
    rintro e w3 ⟨c3, ⟨p1, p2, p3⟩, rfl, q1, q2⟩
    have H3 := Lib.hid q1
    have G3 := Lib.hid (grown_trans G2.out q2)
    have HX3 := Lib.hid (hexPlain c3 x1 (p3.trans HD.out.2.1) p1 p2)
    clear q1 q2 p1 p2 p3
    go_wp2_with fail
    refine (HX3.out _).mono ?_
    rintro e wz ⟨rfl, rfl⟩
    clear HX3
    go_wp2_with fail
    refine (HA1.out _ _ _ H3.out (by omega) (by omega)).mono ?_
    rintro e w4 (⟨ok4, rfl, q1, q2⟩ | ⟨ok4, rfl, ⟨k4, f4, le4, hk4, N4, q1⟩, q2⟩)
    · skip
      have H4 := Lib.hid q1
      have G4 := Lib.hid (grown_trans G3.out q2)
      clear q1 q2
      have kk1 : k + 1 < s.size := LT1.out (by omega)
      go_wp2_with fail
      refine (HA2.out _ _ _ H4.out (by omega) (by omega)).mono ?_
      rintro e w5 (⟨ok5, rfl, q1, q2⟩ | ⟨ok5, rfl, ⟨k5, f5, le5, hk5, N5, q1⟩, q2⟩)
      · skip
        have H5 := Lib.hid q1
        have G5 := Lib.hid (grown_trans G4.out q2)
        clear q1 q2
        have kk2 : k + 2 < s.size := LT2.out (by omega)
        go_wp2_with fail
        refine (HA3.out _ _ _ H5.out (by omega) (by omega)).mono ?_
        rintro e w6 (⟨ok6, rfl, q1, q2⟩ | ⟨ok6, rfl, ⟨k6, f6, le6, hk6, N6, q1⟩, q2⟩)
        · skip
          have H6 := Lib.hid q1
          have G6 := Lib.hid (grown_trans G5.out q2)
          clear q1 q2
          have kk3 : k + 3 < s.size := LT3.out (by omega)
          go_wp2
          go_ret2
          exact .inl ⟨⟨⟨by omega, by omega, by omega, by omega⟩, by simp, fun _ _ q => absurd q h13⟩, rfl, H6.out, G6.out⟩
        · skip
          have H6 := Lib.hid q1
          have G6 := Lib.hid (grown_trans G5.out q2)
          clear q1 q2
          go_wp2
          go_ret2
          exact .inr ⟨fun q => negHigh q (by omega), rfl, ⟨k6, f6, by omega, hk6, N6, H6.out⟩, G6.out⟩
      · skip
        have H5 := Lib.hid q1
        have G5 := Lib.hid (grown_trans G4.out q2)
        clear q1 q2
        go_wp2
        go_ret2
        exact .inr ⟨fun q => negHigh q (by omega), rfl, ⟨k5, f5, by omega, hk5, N5, H5.out⟩, G5.out⟩
    · skip
      have H4 := Lib.hid q1
      have G4 := Lib.hid (grown_trans G3.out q2)
      clear q1 q2
      go_wp2
      go_ret2
      exact .inr ⟨fun q => negHigh q (by omega), rfl, ⟨k4, f4, by omega, hk4, N4, H4.out⟩, G4.out⟩
  · skip
    have H2 := Lib.hid q1
    have G2 := Lib.hid (grown_trans G1.out q2)
    clear q1 q2
    go_wp2
    go_ret2
    exact .inr ⟨fun q => negHigh q (by omega), rfl, ⟨k2, f2, by omega, hk2, N2, H2.out⟩, G2.out⟩
instance (lo low : Bool) (a b c d : Int) : Decidable (unitOk lo low a b c d) := by unfold unitOk; infer_instance
def halfB (lo low : Bool) (x0 x1 : Int) : Bool := !lo && !low && decide (x0 = 13 ∧ 8 ≤ x1)
/-- Whether four digits stand at a place. -/
def unitAt (lo low : Bool) (l : List UInt8) (k : Nat) : Prop := unitOk lo low (hexAt l k) (hexAt l (k + 1)) (hexAt l (k + 2)) (hexAt l (k + 3))
instance (lo low : Bool) (l : List UInt8) (k : Nat) : Decidable (unitAt lo low l k) := by unfold unitAt; infer_instance
def halfAt (lo low : Bool) (l : List UInt8) (k : Nat) : Bool := halfB lo low (hexAt l k) (hexAt l (k + 1))
theorem unitS (low : Bool) (R : Nat) (s : ByteArray) (k : Nat) (tw lo : Bool) (f : Int) (op : Bool) (w : World) (h : RdAt w R s k tw lo f op) (hs : s.size ≤ 140737488355328) (hk : k ≤ s.size) :
    Calls Tryd.prog 77 #[.pointer (some ⟨R, 0, none⟩), .bool low] w (UnitPost (unitAt lo low s.data.toList k) (halfAt lo low s.data.toList k) R s k tw lo f op w) := by
  unfold unitAt halfAt
  have hd : hexAt s.data.toList k = hexAt s.data.toList k ∧ hexAt s.data.toList (k + 1) = hexAt s.data.toList (k + 1) ∧ hexAt s.data.toList (k + 2) = hexAt s.data.toList (k + 2) ∧ hexAt s.data.toList (k + 3) = hexAt s.data.toList (k + 3) := ⟨rfl, rfl, rfl, rfl⟩
  cases lo
  · cases low
    · by_cases h13 : hexAt s.data.toList k = 13
      · have q := unitHigh13 R s k tw f op w (hexAt s.data.toList (k + 1)) (hexAt s.data.toList (k + 2)) (hexAt s.data.toList (k + 3)) h hs hk ⟨h13, rfl, rfl, rfl⟩ _ (Lib.hid rfl)
        rw [h13]
        have e : halfB false false 13 (hexAt s.data.toList (k + 1)) = decide (8 ≤ hexAt s.data.toList (k + 1)) := by simp [halfB]
        rw [e]; exact q
      · have q := unitHigh R s k tw f op w _ _ _ _ h hs hk hd h13
        have e : halfB false false (hexAt s.data.toList k) (hexAt s.data.toList (k + 1)) = false := by simp [halfB, h13]
        rw [e]; exact q
    · exact unitLow R s k tw f op w _ _ _ _ h hs hk hd
  · have q := unitLoose R s k tw f op w _ _ _ _ h hs hk hd low
    exact q
theorem seeP_lt {s : ByteArray} {k : Nat} {c : Int} (h : seeP s.data.toList k = c) (hc : ¬ c = 0) : k < s.size ∧ atL s.data.toList k = c := by
  unfold seeP at h
  rw [size_list] at h
  split at h
  · exact ⟨‹_›, h⟩
  · exact absurd h.symm hc
/-- need of one byte. -/
theorem need1 (R : Nat) (s : ByteArray) (k : Nat) (tw lo : Bool) (f : Int) (op : Bool) (c : Int) (hc : ¬ c = 0) (w : World) (h : RdAt w R s k tw lo f op) (hs : s.size ≤ 140737488355328) (hk : k ≤ s.size) :
    Calls Tryd.prog 32 #[.pointer (some ⟨R, 0, none⟩), .int .u8 c, .int .u8 c] w (Rd (seeP s.data.toList k = c) (k + 1) R s k tw lo f op w) := by
  by_cases q : seeP s.data.toList k = c
  · have h2 := seeP_lt q hc
    exact (need_ok R s k tw lo f op c c w h hs h2.1 (by omega) (by omega)).mono fun _ _ p => .inl ⟨q, p⟩
  · refine (need_no R s k tw lo f op c c w h hs hk fun h1 h2 => q ?_).mono fun _ _ p => .inr ⟨q, p⟩
    unfold seeP
    rw [size_list, if_pos h1]
    omega
def esc8 (c : Int) : Prop := c = 34 ∨ c = 92 ∨ c = 47 ∨ c = 98 ∨ c = 102 ∨ c = 110 ∨ c = 114 ∨ c = 116
instance (c : Int) : Decidable (esc8 c) := by unfold esc8; infer_instance
/-- The place behind an escape whose backslash is read, or 0. -/
def escN (lo : Bool) (l : List UInt8) (k : Nat) : Nat :=
  if esc8 (seeP l k) then k + 1
  else if seeP l k = 117 then
    if unitAt lo false l (k + 1) then
      if halfAt lo false l (k + 1) = true then
        if seeP l (k + 5) = 92 ∧ seeP l (k + 6) = 117 ∧ unitAt lo true l (k + 7) then k + 11 else 0
      else k + 5
    else 0
  else 0
set_option maxRecDepth 100000 in
theorem esc_8 (R : Nat) (s : ByteArray) (k : Nat) (tw lo : Bool) (f : Int) (op : Bool) (w : World) (c : Int) (hc : seeP s.data.toList k = c) (h8 : esc8 c) (h : RdAt w R s k tw lo f op) (hs : s.size ≤ 140737488355328) (hk : k ≤ s.size) :
    Calls Tryd.prog 49 #[.pointer (some ⟨R, 0, none⟩)] w (ValPost (.bool true) R s (k + 1) tw lo f op w) := by
  have lt : k < s.size := (seeP_lt hc (by unfold esc8 at h8; omega)).1
  have hsee := see R s k tw lo f op w h hs hk
  rw [hc] at hsee
  have HS := Lib.hid hsee
  clear hsee hc h
  rcases h8 with rfl | rfl | rfl | rfl | rfl | rfl | rfl | rfl
  all_goals (
    go_enter Tryd.func49, Tryd.ntmps49
    go_wp2_with fail
    refine HS.out.mono ?_
    rintro e w1 ⟨rfl, h1, g1⟩
    have c1 := h1.c1
    have f1 := h1.fz 1
    have H1 := Lib.hid h1.inc
    have G1 := Lib.hid (grown_set g1 1 (.int .i64 ((k : Int) + 1)))
    clear h1 g1
    go_wp2
    go_ret
    exact ⟨rfl, H1.out, G1.out⟩)
set_option maxRecDepth 100000 in
theorem esc_no (R : Nat) (s : ByteArray) (k : Nat) (tw lo : Bool) (f : Int) (op : Bool) (w : World) (c : Int) (hc : seeP s.data.toList k = c) (h8 : ¬ esc8 c) (h9 : ¬ c = 117) (h : RdAt w R s k tw lo f op) (hs : s.size ≤ 140737488355328) (hk : k ≤ s.size) :
    Calls Tryd.prog 49 #[.pointer (some ⟨R, 0, none⟩)] w (NoPost R s k tw lo op w) := by
  have hsee := see R s k tw lo f op w h hs hk
  rw [hc] at hsee
  have HS := Lib.hid hsee
  clear hsee hc h
  unfold esc8 at h8
  have b1 : (c == 34) = false := by simp; omega
  have b2 : (c == 92) = false := by simp; omega
  have b3 : (c == 47) = false := by simp; omega
  have b4 : (c == 98) = false := by simp; omega
  have b5 : (c == 102) = false := by simp; omega
  have b6 : (c == 110) = false := by simp; omega
  have b7 : (c == 114) = false := by simp; omega
  have b8 : (c == 116) = false := by simp; omega
  have b9 : (c == 117) = false := by simp; omega
  clear h8 h9
  go_enter Tryd.func49, Tryd.ntmps49
  go_wp2_with fail
  refine HS.out.mono ?_
  rintro e w1 ⟨rfl, h1, g1⟩
  have H1 := Lib.hid h1
  have G1 := Lib.hid g1
  clear h1 g1
  go_wp2_with fail
  refine (failNo R s k tw lo f op 4 (by decide) _ H1.out hk).mono ?_
  rintro e w2 ⟨rfl, h2, g2⟩
  have H2 := Lib.hid h2
  have G2 := Lib.hid (grown_trans G1.out g2)
  clear h2 g2
  go_wp2
  go_ret
  exact ⟨rfl, H2.out, G2.out⟩
theorem escN_u (lo : Bool) (l : List UInt8) (k : Nat) (hc : seeP l k = 117) : escN lo l k = if unitAt lo false l (k + 1) then
      if halfAt lo false l (k + 1) = true then
        if seeP l (k + 5) = 92 ∧ seeP l (k + 6) = 117 ∧ unitAt lo true l (k + 7) then k + 11 else 0
      else k + 5
    else 0 := by
  unfold escN
  rw [if_neg (by rw [hc]; decide), if_pos hc]
set_option maxRecDepth 100000 in
theorem esc_u (R : Nat) (s : ByteArray) (k : Nat) (tw lo : Bool) (f : Int) (op : Bool) (w : World) (hc : seeP s.data.toList k = 117) (h : RdAt w R s k tw lo f op) (hs : s.size ≤ 140737488355328) (hk : k ≤ s.size) :
    Calls Tryd.prog 49 #[.pointer (some ⟨R, 0, none⟩)] w (Rd (¬ escN lo s.data.toList k = 0) (escN lo s.data.toList k) R s k tw lo f op w) := by
  have lt : k < s.size := (seeP_lt hc (by decide)).1
  have hsee := see R s k tw lo f op w h hs hk
  rw [hc] at hsee
  have HN := Lib.hid (escN_u lo s.data.toList k hc)
  have HS := Lib.hid hsee
  have HU : Hid (∀ W, RdAt W R s (k + 1) tw lo f op → Calls Tryd.prog 77 #[.pointer (some ⟨R, 0, none⟩), .bool false] W (UnitPost (unitAt lo false s.data.toList (k + 1)) (halfAt lo false s.data.toList (k + 1)) R s (k + 1) tw lo f op W)) := Lib.hid fun W x => unitS false R s (k + 1) tw lo f op W x hs lt
  have HV : Hid (∀ W, RdAt W R s (k + 7) tw lo f op → k + 7 ≤ s.size → Calls Tryd.prog 77 #[.pointer (some ⟨R, 0, none⟩), .bool true] W (UnitPost (unitAt lo true s.data.toList (k + 7)) (halfAt lo true s.data.toList (k + 7)) R s (k + 7) tw lo f op W)) := Lib.hid fun W x y => unitS true R s (k + 7) tw lo f op W x hs y
  have HA : Hid (∀ W, RdAt W R s (k + 5) tw lo f op → k + 5 ≤ s.size → Calls Tryd.prog 32 #[.pointer (some ⟨R, 0, none⟩), .int .u8 92, .int .u8 92] W (Rd (seeP s.data.toList (k + 5) = 92) (k + 6) R s (k + 5) tw lo f op W)) := Lib.hid fun W x y => need1 R s (k + 5) tw lo f op 92 (by decide) W x hs y
  have HB : Hid (∀ W, RdAt W R s (k + 6) tw lo f op → k + 6 ≤ s.size → Calls Tryd.prog 32 #[.pointer (some ⟨R, 0, none⟩), .int .u8 117, .int .u8 117] W (Rd (seeP s.data.toList (k + 6) = 117) (k + 7) R s (k + 6) tw lo f op W)) := Lib.hid fun W x y => need1 R s (k + 6) tw lo f op 117 (by decide) W x hs y
  have HL : Hid (∀ j c, seeP s.data.toList j = c → ¬ c = 0 → j < s.size) := Lib.hid fun j c a b => (seeP_lt a b).1
  have HM : Hid (unitAt lo false s.data.toList (k + 1) → k + 5 ≤ s.size) := Lib.hid fun q => hexAt_lt q.1.2.2.2
  clear hsee hc h
  go_enter Tryd.func49, Tryd.ntmps49
  go_wp2_with fail
  refine HS.out.mono ?_
  rintro e w1 ⟨rfl, h1, g1⟩
  have c1 := h1.c1
  have f1 := h1.fz 1
  have H1 := Lib.hid h1.inc
  have G1 := Lib.hid (grown_set g1 1 (.int .i64 ((k : Int) + 1)))
  clear h1 g1
  go_wp2_with fail
  refine (HU.out _ H1.out).mono ?_
  generalize hhf : halfAt lo false s.data.toList (k + 1) = half at HN
  rintro e w2 (⟨ok2, rfl, h2, g2⟩ | ⟨ok2, rfl, ⟨k2, f2, le2, hk2, n2, h2⟩, g2⟩)
  · have H2 := Lib.hid h2
    have G2 := Lib.hid (grown_trans G1.out g2)
    have hk5 := HM.out ok2
    have OK2 := Lib.hid ok2
    clear h2 g2 ok2
    cases half
    · have hn : escN lo s.data.toList k = k + 5 := by rw [HN.out, if_pos OK2.out, if_neg (by simp)]
      have HN2 := Lib.hid hn
      clear hn
      go_wp2
      go_ret
      exact .inl ⟨by rw [HN2.out]; omega, by rw [HN2.out]; exact ⟨rfl, H2.out, G2.out⟩⟩
    · have hn : escN lo s.data.toList k = if seeP s.data.toList (k + 5) = 92 ∧ seeP s.data.toList (k + 6) = 117 ∧ unitAt lo true s.data.toList (k + 7) then k + 11 else 0 := by rw [HN.out, if_pos OK2.out, if_pos rfl]
      have HN2 := Lib.hid hn
      clear hn
      go_wp2_with fail
      refine (HA.out _ H2.out hk5).mono ?_
      rintro e w3 (⟨ok3, rfl, h3, g3⟩ | ⟨ok3, rfl, ⟨k3, f3, le3, hk3, n3, h3⟩, g3⟩)
      · have H3 := Lib.hid h3
        have G3 := Lib.hid (grown_trans G2.out g3)
        have hk6 : k + 6 ≤ s.size := HL.out _ _ ok3 (by decide)
        have OK3 := Lib.hid ok3
        clear h3 g3 ok3
        go_wp2_with fail
        refine (HB.out _ H3.out hk6).mono ?_
        rintro e w4 (⟨ok4, rfl, h4, g4⟩ | ⟨ok4, rfl, ⟨k4, f4, le4, hk4, n4, h4⟩, g4⟩)
        · have H4 := Lib.hid h4
          have G4 := Lib.hid (grown_trans G3.out g4)
          have hk7 : k + 7 ≤ s.size := HL.out _ _ ok4 (by decide)
          have OK4 := Lib.hid ok4
          clear h4 g4 ok4
          go_wp2_with fail
          refine (HV.out _ H4.out hk7).mono ?_
          rintro e w5 (⟨ok5, rfl, h5, g5⟩ | ⟨ok5, rfl, ⟨k5, f5, le5, hk5, n5, h5⟩, g5⟩)
          · have H5 := Lib.hid h5
            have G5 := Lib.hid (grown_trans G4.out g5)
            have OK5 := Lib.hid ok5
            clear h5 g5 ok5
            go_wp2
            go_ret
            have e : escN lo s.data.toList k = k + 11 := by rw [HN2.out, if_pos ⟨OK3.out, OK4.out, OK5.out⟩]
            exact .inl ⟨by rw [e]; omega, by rw [e]; exact ⟨rfl, H5.out, G5.out⟩⟩
          · have H5 := Lib.hid h5
            have G5 := Lib.hid (grown_trans G4.out g5)
            have OK5 := Lib.hid ok5
            clear h5 g5 ok5
            go_wp2
            go_ret
            exact .inr ⟨fun q => q (by rw [HN2.out, if_neg fun q => OK5.out q.2.2]), rfl, ⟨k5, f5, by omega, hk5, n5, H5.out⟩, G5.out⟩
        · have H4 := Lib.hid h4
          have G4 := Lib.hid (grown_trans G3.out g4)
          have OK4 := Lib.hid ok4
          clear h4 g4 ok4
          go_wp2
          go_ret
          exact .inr ⟨fun q => q (by rw [HN2.out, if_neg fun q => OK4.out q.2.1]), rfl, ⟨k4, f4, by omega, hk4, n4, H4.out⟩, G4.out⟩
      · have H3 := Lib.hid h3
        have G3 := Lib.hid (grown_trans G2.out g3)
        have OK3 := Lib.hid ok3
        clear h3 g3 ok3
        go_wp2
        go_ret
        exact .inr ⟨fun q => q (by rw [HN2.out, if_neg fun q => OK3.out q.1]), rfl, ⟨k3, f3, by omega, hk3, n3, H3.out⟩, G3.out⟩
  · have H2 := Lib.hid h2
    have G2 := Lib.hid (grown_trans G1.out g2)
    have OK2 := Lib.hid ok2
    clear h2 g2 ok2
    go_wp2
    go_ret
    exact .inr ⟨fun q => q (by rw [HN.out, if_neg OK2.out]), rfl, ⟨k2, f2, by omega, hk2, n2, H2.out⟩, G2.out⟩
/-- An escape, walked. -/
theorem escapeS (R : Nat) (s : ByteArray) (k : Nat) (tw lo : Bool) (f : Int) (op : Bool) (w : World) (h : RdAt w R s k tw lo f op) (hs : s.size ≤ 140737488355328) (hk : k ≤ s.size) :
    Calls Tryd.prog 49 #[.pointer (some ⟨R, 0, none⟩)] w (Rd (¬ escN lo s.data.toList k = 0) (escN lo s.data.toList k) R s k tw lo f op w) := by
  by_cases h8 : esc8 (seeP s.data.toList k)
  · have e : escN lo s.data.toList k = k + 1 := by unfold escN; rw [if_pos h8]
    rw [e]
    exact (esc_8 R s k tw lo f op w _ rfl h8 h hs hk).mono fun _ _ p => .inl ⟨by omega, p⟩
  · by_cases h9 : seeP s.data.toList k = 117
    · exact esc_u R s k tw lo f op w h9 h hs hk
    · have e : escN lo s.data.toList k = 0 := by unfold escN; rw [if_neg h8, if_neg h9]
      exact (esc_no R s k tw lo f op w _ rfl h8 h9 h hs hk).mono fun _ _ p => .inr ⟨fun q => q e, p⟩
end Go.Proofs.YtldcoaigecnpfaaDoor
