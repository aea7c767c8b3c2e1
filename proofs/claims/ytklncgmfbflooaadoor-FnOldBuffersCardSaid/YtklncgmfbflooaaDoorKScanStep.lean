/- The old scanner beside a block that stays: each state's function, walked: it does what the machine's step says. -/
import Derived.Test.YtklncgmfbflooaaDoorKScanEnd
import Derived.Test.YtklncgmfbflooaaDoorScanStep
namespace Go.Proofs.YtklncgmfbflooaaDoor.Kp
open Go.RowKit
variable [K : Keep]
theorem gset (B S : Nat) (w : World) (v : Value) : Gr2 B w (w.setCell ⟨S, 0, none⟩ v) S S := (Gr2.refl B w S S).set v (q := ⟨S, 0, none⟩) (.inl rfl)
set_option maxRecDepth 100000 in
set_option maxHeartbeats 2000000 in
theorem st_T (S B : Nat) (s : Cfg) (c : Int) (w : World) (h : ScAt w S B s) (hok : okC s) (hc : 0 ≤ c) :
    Calls Tryd.prog 102 #[.pointer (some ⟨S, 0, none⟩), .int .u8 c] w (StepPost S B (stepM .T s c) w) := by
  have H := Lib.hid h
  have HE : Hid (∀ m W, ScAt W S B s → m.size ≤ 100 → Calls Tryd.prog 106 #[.pointer (some ⟨S, 0, none⟩), .int .u8 c, .string m] W (StepPost S B (errM s) W)) := Lib.hid fun m W a b => errS S B s c m W a b
  have HEV : Hid (∀ W, ScAt W S B s → Calls Tryd.prog 108 #[.pointer (some ⟨S, 0, none⟩), .int .u8 c] W (StepPost S B (endValM s c) W)) := Lib.hid fun W a => endValS S B s c W a hok.1 (Nat.le_of_lt hok.2)
  have c0 := h.c0
  have f0 := h.fz 0
  clear h
  by_cases q0 : c = 114
  · have e : stepM .T s c = (s.to .Tr, 0) := by simp only [stepM, oneM]; (repeat' split) <;> first | rfl | contradiction | (exfalso; omega)
    rw [e]
    clear e
    subst q0
    go_enter Tryd.func102, Tryd.ntmps102
    go_wp2
    go_ret
    exact ⟨rfl, H.out.setQ .Tr, gset B S _ _⟩
  · skip
    have e : stepM .T s c = errM s := by simp only [stepM, oneM]; (repeat' split) <;> first | rfl | contradiction | (exfalso; omega)
    rw [e]
    clear e
    have b114 : (c == 114) = false := by simp; omega
    clear q0 hok
    go_enter Tryd.func102, Tryd.ntmps102
    go_wp2_with fail
    refine (HE.out _ _ H.out (by decide)).mono ?_
    rintro e w2 ⟨rfl, h2, g2⟩
    have H2 := Lib.hid h2
    have G2 := Lib.hid g2
    clear h2 g2
    go_wp2
    go_ret
    exact ⟨rfl, H2.out, G2.out⟩
set_option maxRecDepth 100000 in
set_option maxHeartbeats 2000000 in
theorem st_Tr (S B : Nat) (s : Cfg) (c : Int) (w : World) (h : ScAt w S B s) (hok : okC s) (hc : 0 ≤ c) :
    Calls Tryd.prog 113 #[.pointer (some ⟨S, 0, none⟩), .int .u8 c] w (StepPost S B (stepM .Tr s c) w) := by
  have H := Lib.hid h
  have HE : Hid (∀ m W, ScAt W S B s → m.size ≤ 100 → Calls Tryd.prog 106 #[.pointer (some ⟨S, 0, none⟩), .int .u8 c, .string m] W (StepPost S B (errM s) W)) := Lib.hid fun m W a b => errS S B s c m W a b
  have HEV : Hid (∀ W, ScAt W S B s → Calls Tryd.prog 108 #[.pointer (some ⟨S, 0, none⟩), .int .u8 c] W (StepPost S B (endValM s c) W)) := Lib.hid fun W a => endValS S B s c W a hok.1 (Nat.le_of_lt hok.2)
  have c0 := h.c0
  have f0 := h.fz 0
  clear h
  by_cases q0 : c = 117
  · have e : stepM .Tr s c = (s.to .Tru, 0) := by simp only [stepM, oneM]; (repeat' split) <;> first | rfl | contradiction | (exfalso; omega)
    rw [e]
    clear e
    subst q0
    go_enter Tryd.func113, Tryd.ntmps113
    go_wp2
    go_ret
    exact ⟨rfl, H.out.setQ .Tru, gset B S _ _⟩
  · skip
    have e : stepM .Tr s c = errM s := by simp only [stepM, oneM]; (repeat' split) <;> first | rfl | contradiction | (exfalso; omega)
    rw [e]
    clear e
    have b117 : (c == 117) = false := by simp; omega
    clear q0 hok
    go_enter Tryd.func113, Tryd.ntmps113
    go_wp2_with fail
    refine (HE.out _ _ H.out (by decide)).mono ?_
    rintro e w2 ⟨rfl, h2, g2⟩
    have H2 := Lib.hid h2
    have G2 := Lib.hid g2
    clear h2 g2
    go_wp2
    go_ret
    exact ⟨rfl, H2.out, G2.out⟩
set_option maxRecDepth 100000 in
set_option maxHeartbeats 2000000 in
theorem st_Tru (S B : Nat) (s : Cfg) (c : Int) (w : World) (h : ScAt w S B s) (hok : okC s) (hc : 0 ≤ c) :
    Calls Tryd.prog 123 #[.pointer (some ⟨S, 0, none⟩), .int .u8 c] w (StepPost S B (stepM .Tru s c) w) := by
  have H := Lib.hid h
  have HE : Hid (∀ m W, ScAt W S B s → m.size ≤ 100 → Calls Tryd.prog 106 #[.pointer (some ⟨S, 0, none⟩), .int .u8 c, .string m] W (StepPost S B (errM s) W)) := Lib.hid fun m W a b => errS S B s c m W a b
  have HEV : Hid (∀ W, ScAt W S B s → Calls Tryd.prog 108 #[.pointer (some ⟨S, 0, none⟩), .int .u8 c] W (StepPost S B (endValM s c) W)) := Lib.hid fun W a => endValS S B s c W a hok.1 (Nat.le_of_lt hok.2)
  have c0 := h.c0
  have f0 := h.fz 0
  clear h
  by_cases q0 : c = 101
  · have e : stepM .Tru s c = (s.to .EV, 0) := by simp only [stepM, oneM]; (repeat' split) <;> first | rfl | contradiction | (exfalso; omega)
    rw [e]
    clear e
    subst q0
    go_enter Tryd.func123, Tryd.ntmps123
    go_wp2
    go_ret
    exact ⟨rfl, H.out.setQ .EV, gset B S _ _⟩
  · skip
    have e : stepM .Tru s c = errM s := by simp only [stepM, oneM]; (repeat' split) <;> first | rfl | contradiction | (exfalso; omega)
    rw [e]
    clear e
    have b101 : (c == 101) = false := by simp; omega
    clear q0 hok
    go_enter Tryd.func123, Tryd.ntmps123
    go_wp2_with fail
    refine (HE.out _ _ H.out (by decide)).mono ?_
    rintro e w2 ⟨rfl, h2, g2⟩
    have H2 := Lib.hid h2
    have G2 := Lib.hid g2
    clear h2 g2
    go_wp2
    go_ret
    exact ⟨rfl, H2.out, G2.out⟩
set_option maxRecDepth 100000 in
set_option maxHeartbeats 2000000 in
theorem st_F (S B : Nat) (s : Cfg) (c : Int) (w : World) (h : ScAt w S B s) (hok : okC s) (hc : 0 ≤ c) :
    Calls Tryd.prog 103 #[.pointer (some ⟨S, 0, none⟩), .int .u8 c] w (StepPost S B (stepM .F s c) w) := by
  have H := Lib.hid h
  have HE : Hid (∀ m W, ScAt W S B s → m.size ≤ 100 → Calls Tryd.prog 106 #[.pointer (some ⟨S, 0, none⟩), .int .u8 c, .string m] W (StepPost S B (errM s) W)) := Lib.hid fun m W a b => errS S B s c m W a b
  have HEV : Hid (∀ W, ScAt W S B s → Calls Tryd.prog 108 #[.pointer (some ⟨S, 0, none⟩), .int .u8 c] W (StepPost S B (endValM s c) W)) := Lib.hid fun W a => endValS S B s c W a hok.1 (Nat.le_of_lt hok.2)
  have c0 := h.c0
  have f0 := h.fz 0
  clear h
  by_cases q0 : c = 97
  · have e : stepM .F s c = (s.to .Fa, 0) := by simp only [stepM, oneM]; (repeat' split) <;> first | rfl | contradiction | (exfalso; omega)
    rw [e]
    clear e
    subst q0
    go_enter Tryd.func103, Tryd.ntmps103
    go_wp2
    go_ret
    exact ⟨rfl, H.out.setQ .Fa, gset B S _ _⟩
  · skip
    have e : stepM .F s c = errM s := by simp only [stepM, oneM]; (repeat' split) <;> first | rfl | contradiction | (exfalso; omega)
    rw [e]
    clear e
    have b97 : (c == 97) = false := by simp; omega
    clear q0 hok
    go_enter Tryd.func103, Tryd.ntmps103
    go_wp2_with fail
    refine (HE.out _ _ H.out (by decide)).mono ?_
    rintro e w2 ⟨rfl, h2, g2⟩
    have H2 := Lib.hid h2
    have G2 := Lib.hid g2
    clear h2 g2
    go_wp2
    go_ret
    exact ⟨rfl, H2.out, G2.out⟩
set_option maxRecDepth 100000 in
set_option maxHeartbeats 2000000 in
theorem st_Fa (S B : Nat) (s : Cfg) (c : Int) (w : World) (h : ScAt w S B s) (hok : okC s) (hc : 0 ≤ c) :
    Calls Tryd.prog 114 #[.pointer (some ⟨S, 0, none⟩), .int .u8 c] w (StepPost S B (stepM .Fa s c) w) := by
  have H := Lib.hid h
  have HE : Hid (∀ m W, ScAt W S B s → m.size ≤ 100 → Calls Tryd.prog 106 #[.pointer (some ⟨S, 0, none⟩), .int .u8 c, .string m] W (StepPost S B (errM s) W)) := Lib.hid fun m W a b => errS S B s c m W a b
  have HEV : Hid (∀ W, ScAt W S B s → Calls Tryd.prog 108 #[.pointer (some ⟨S, 0, none⟩), .int .u8 c] W (StepPost S B (endValM s c) W)) := Lib.hid fun W a => endValS S B s c W a hok.1 (Nat.le_of_lt hok.2)
  have c0 := h.c0
  have f0 := h.fz 0
  clear h
  by_cases q0 : c = 108
  · have e : stepM .Fa s c = (s.to .Fal, 0) := by simp only [stepM, oneM]; (repeat' split) <;> first | rfl | contradiction | (exfalso; omega)
    rw [e]
    clear e
    subst q0
    go_enter Tryd.func114, Tryd.ntmps114
    go_wp2
    go_ret
    exact ⟨rfl, H.out.setQ .Fal, gset B S _ _⟩
  · skip
    have e : stepM .Fa s c = errM s := by simp only [stepM, oneM]; (repeat' split) <;> first | rfl | contradiction | (exfalso; omega)
    rw [e]
    clear e
    have b108 : (c == 108) = false := by simp; omega
    clear q0 hok
    go_enter Tryd.func114, Tryd.ntmps114
    go_wp2_with fail
    refine (HE.out _ _ H.out (by decide)).mono ?_
    rintro e w2 ⟨rfl, h2, g2⟩
    have H2 := Lib.hid h2
    have G2 := Lib.hid g2
    clear h2 g2
    go_wp2
    go_ret
    exact ⟨rfl, H2.out, G2.out⟩
set_option maxRecDepth 100000 in
set_option maxHeartbeats 2000000 in
theorem st_Fal (S B : Nat) (s : Cfg) (c : Int) (w : World) (h : ScAt w S B s) (hok : okC s) (hc : 0 ≤ c) :
    Calls Tryd.prog 124 #[.pointer (some ⟨S, 0, none⟩), .int .u8 c] w (StepPost S B (stepM .Fal s c) w) := by
  have H := Lib.hid h
  have HE : Hid (∀ m W, ScAt W S B s → m.size ≤ 100 → Calls Tryd.prog 106 #[.pointer (some ⟨S, 0, none⟩), .int .u8 c, .string m] W (StepPost S B (errM s) W)) := Lib.hid fun m W a b => errS S B s c m W a b
  have HEV : Hid (∀ W, ScAt W S B s → Calls Tryd.prog 108 #[.pointer (some ⟨S, 0, none⟩), .int .u8 c] W (StepPost S B (endValM s c) W)) := Lib.hid fun W a => endValS S B s c W a hok.1 (Nat.le_of_lt hok.2)
  have c0 := h.c0
  have f0 := h.fz 0
  clear h
  by_cases q0 : c = 115
  · have e : stepM .Fal s c = (s.to .Fals, 0) := by simp only [stepM, oneM]; (repeat' split) <;> first | rfl | contradiction | (exfalso; omega)
    rw [e]
    clear e
    subst q0
    go_enter Tryd.func124, Tryd.ntmps124
    go_wp2
    go_ret
    exact ⟨rfl, H.out.setQ .Fals, gset B S _ _⟩
  · skip
    have e : stepM .Fal s c = errM s := by simp only [stepM, oneM]; (repeat' split) <;> first | rfl | contradiction | (exfalso; omega)
    rw [e]
    clear e
    have b115 : (c == 115) = false := by simp; omega
    clear q0 hok
    go_enter Tryd.func124, Tryd.ntmps124
    go_wp2_with fail
    refine (HE.out _ _ H.out (by decide)).mono ?_
    rintro e w2 ⟨rfl, h2, g2⟩
    have H2 := Lib.hid h2
    have G2 := Lib.hid g2
    clear h2 g2
    go_wp2
    go_ret
    exact ⟨rfl, H2.out, G2.out⟩
set_option maxRecDepth 100000 in
set_option maxHeartbeats 2000000 in
theorem st_Fals (S B : Nat) (s : Cfg) (c : Int) (w : World) (h : ScAt w S B s) (hok : okC s) (hc : 0 ≤ c) :
    Calls Tryd.prog 128 #[.pointer (some ⟨S, 0, none⟩), .int .u8 c] w (StepPost S B (stepM .Fals s c) w) := by
  have H := Lib.hid h
  have HE : Hid (∀ m W, ScAt W S B s → m.size ≤ 100 → Calls Tryd.prog 106 #[.pointer (some ⟨S, 0, none⟩), .int .u8 c, .string m] W (StepPost S B (errM s) W)) := Lib.hid fun m W a b => errS S B s c m W a b
  have HEV : Hid (∀ W, ScAt W S B s → Calls Tryd.prog 108 #[.pointer (some ⟨S, 0, none⟩), .int .u8 c] W (StepPost S B (endValM s c) W)) := Lib.hid fun W a => endValS S B s c W a hok.1 (Nat.le_of_lt hok.2)
  have c0 := h.c0
  have f0 := h.fz 0
  clear h
  by_cases q0 : c = 101
  · have e : stepM .Fals s c = (s.to .EV, 0) := by simp only [stepM, oneM]; (repeat' split) <;> first | rfl | contradiction | (exfalso; omega)
    rw [e]
    clear e
    subst q0
    go_enter Tryd.func128, Tryd.ntmps128
    go_wp2
    go_ret
    exact ⟨rfl, H.out.setQ .EV, gset B S _ _⟩
  · skip
    have e : stepM .Fals s c = errM s := by simp only [stepM, oneM]; (repeat' split) <;> first | rfl | contradiction | (exfalso; omega)
    rw [e]
    clear e
    have b101 : (c == 101) = false := by simp; omega
    clear q0 hok
    go_enter Tryd.func128, Tryd.ntmps128
    go_wp2_with fail
    refine (HE.out _ _ H.out (by decide)).mono ?_
    rintro e w2 ⟨rfl, h2, g2⟩
    have H2 := Lib.hid h2
    have G2 := Lib.hid g2
    clear h2 g2
    go_wp2
    go_ret
    exact ⟨rfl, H2.out, G2.out⟩
set_option maxRecDepth 100000 in
set_option maxHeartbeats 2000000 in
theorem st_N (S B : Nat) (s : Cfg) (c : Int) (w : World) (h : ScAt w S B s) (hok : okC s) (hc : 0 ≤ c) :
    Calls Tryd.prog 104 #[.pointer (some ⟨S, 0, none⟩), .int .u8 c] w (StepPost S B (stepM .N s c) w) := by
  have H := Lib.hid h
  have HE : Hid (∀ m W, ScAt W S B s → m.size ≤ 100 → Calls Tryd.prog 106 #[.pointer (some ⟨S, 0, none⟩), .int .u8 c, .string m] W (StepPost S B (errM s) W)) := Lib.hid fun m W a b => errS S B s c m W a b
  have HEV : Hid (∀ W, ScAt W S B s → Calls Tryd.prog 108 #[.pointer (some ⟨S, 0, none⟩), .int .u8 c] W (StepPost S B (endValM s c) W)) := Lib.hid fun W a => endValS S B s c W a hok.1 (Nat.le_of_lt hok.2)
  have c0 := h.c0
  have f0 := h.fz 0
  clear h
  by_cases q0 : c = 117
  · have e : stepM .N s c = (s.to .Nu, 0) := by simp only [stepM, oneM]; (repeat' split) <;> first | rfl | contradiction | (exfalso; omega)
    rw [e]
    clear e
    subst q0
    go_enter Tryd.func104, Tryd.ntmps104
    go_wp2
    go_ret
    exact ⟨rfl, H.out.setQ .Nu, gset B S _ _⟩
  · skip
    have e : stepM .N s c = errM s := by simp only [stepM, oneM]; (repeat' split) <;> first | rfl | contradiction | (exfalso; omega)
    rw [e]
    clear e
    have b117 : (c == 117) = false := by simp; omega
    clear q0 hok
    go_enter Tryd.func104, Tryd.ntmps104
    go_wp2_with fail
    refine (HE.out _ _ H.out (by decide)).mono ?_
    rintro e w2 ⟨rfl, h2, g2⟩
    have H2 := Lib.hid h2
    have G2 := Lib.hid g2
    clear h2 g2
    go_wp2
    go_ret
    exact ⟨rfl, H2.out, G2.out⟩
set_option maxRecDepth 100000 in
set_option maxHeartbeats 2000000 in
theorem st_Nu (S B : Nat) (s : Cfg) (c : Int) (w : World) (h : ScAt w S B s) (hok : okC s) (hc : 0 ≤ c) :
    Calls Tryd.prog 115 #[.pointer (some ⟨S, 0, none⟩), .int .u8 c] w (StepPost S B (stepM .Nu s c) w) := by
  have H := Lib.hid h
  have HE : Hid (∀ m W, ScAt W S B s → m.size ≤ 100 → Calls Tryd.prog 106 #[.pointer (some ⟨S, 0, none⟩), .int .u8 c, .string m] W (StepPost S B (errM s) W)) := Lib.hid fun m W a b => errS S B s c m W a b
  have HEV : Hid (∀ W, ScAt W S B s → Calls Tryd.prog 108 #[.pointer (some ⟨S, 0, none⟩), .int .u8 c] W (StepPost S B (endValM s c) W)) := Lib.hid fun W a => endValS S B s c W a hok.1 (Nat.le_of_lt hok.2)
  have c0 := h.c0
  have f0 := h.fz 0
  clear h
  by_cases q0 : c = 108
  · have e : stepM .Nu s c = (s.to .Nul, 0) := by simp only [stepM, oneM]; (repeat' split) <;> first | rfl | contradiction | (exfalso; omega)
    rw [e]
    clear e
    subst q0
    go_enter Tryd.func115, Tryd.ntmps115
    go_wp2
    go_ret
    exact ⟨rfl, H.out.setQ .Nul, gset B S _ _⟩
  · skip
    have e : stepM .Nu s c = errM s := by simp only [stepM, oneM]; (repeat' split) <;> first | rfl | contradiction | (exfalso; omega)
    rw [e]
    clear e
    have b108 : (c == 108) = false := by simp; omega
    clear q0 hok
    go_enter Tryd.func115, Tryd.ntmps115
    go_wp2_with fail
    refine (HE.out _ _ H.out (by decide)).mono ?_
    rintro e w2 ⟨rfl, h2, g2⟩
    have H2 := Lib.hid h2
    have G2 := Lib.hid g2
    clear h2 g2
    go_wp2
    go_ret
    exact ⟨rfl, H2.out, G2.out⟩
set_option maxRecDepth 100000 in
set_option maxHeartbeats 2000000 in
theorem st_Nul (S B : Nat) (s : Cfg) (c : Int) (w : World) (h : ScAt w S B s) (hok : okC s) (hc : 0 ≤ c) :
    Calls Tryd.prog 125 #[.pointer (some ⟨S, 0, none⟩), .int .u8 c] w (StepPost S B (stepM .Nul s c) w) := by
  have H := Lib.hid h
  have HE : Hid (∀ m W, ScAt W S B s → m.size ≤ 100 → Calls Tryd.prog 106 #[.pointer (some ⟨S, 0, none⟩), .int .u8 c, .string m] W (StepPost S B (errM s) W)) := Lib.hid fun m W a b => errS S B s c m W a b
  have HEV : Hid (∀ W, ScAt W S B s → Calls Tryd.prog 108 #[.pointer (some ⟨S, 0, none⟩), .int .u8 c] W (StepPost S B (endValM s c) W)) := Lib.hid fun W a => endValS S B s c W a hok.1 (Nat.le_of_lt hok.2)
  have c0 := h.c0
  have f0 := h.fz 0
  clear h
  by_cases q0 : c = 108
  · have e : stepM .Nul s c = (s.to .EV, 0) := by simp only [stepM, oneM]; (repeat' split) <;> first | rfl | contradiction | (exfalso; omega)
    rw [e]
    clear e
    subst q0
    go_enter Tryd.func125, Tryd.ntmps125
    go_wp2
    go_ret
    exact ⟨rfl, H.out.setQ .EV, gset B S _ _⟩
  · skip
    have e : stepM .Nul s c = errM s := by simp only [stepM, oneM]; (repeat' split) <;> first | rfl | contradiction | (exfalso; omega)
    rw [e]
    clear e
    have b108 : (c == 108) = false := by simp; omega
    clear q0 hok
    go_enter Tryd.func125, Tryd.ntmps125
    go_wp2_with fail
    refine (HE.out _ _ H.out (by decide)).mono ?_
    rintro e w2 ⟨rfl, h2, g2⟩
    have H2 := Lib.hid h2
    have G2 := Lib.hid g2
    clear h2 g2
    go_wp2
    go_ret
    exact ⟨rfl, H2.out, G2.out⟩
set_option maxRecDepth 100000 in
set_option maxHeartbeats 2000000 in
theorem st_IS (S B : Nat) (s : Cfg) (c : Int) (w : World) (h : ScAt w S B s) (hok : okC s) (hc : 0 ≤ c) :
    Calls Tryd.prog 99 #[.pointer (some ⟨S, 0, none⟩), .int .u8 c] w (StepPost S B (stepM .IS s c) w) := by
  have H := Lib.hid h
  have HE : Hid (∀ m W, ScAt W S B s → m.size ≤ 100 → Calls Tryd.prog 106 #[.pointer (some ⟨S, 0, none⟩), .int .u8 c, .string m] W (StepPost S B (errM s) W)) := Lib.hid fun m W a b => errS S B s c m W a b
  have HEV : Hid (∀ W, ScAt W S B s → Calls Tryd.prog 108 #[.pointer (some ⟨S, 0, none⟩), .int .u8 c] W (StepPost S B (endValM s c) W)) := Lib.hid fun W a => endValS S B s c W a hok.1 (Nat.le_of_lt hok.2)
  have c0 := h.c0
  have f0 := h.fz 0
  clear h
  by_cases q0 : c = 34
  · have e : stepM .IS s c = (s.to .EV, 0) := by simp only [stepM]; (repeat' split) <;> first | rfl | contradiction | (exfalso; omega)
    rw [e]
    clear e
    subst q0
    go_enter Tryd.func99, Tryd.ntmps99
    go_wp2
    go_ret
    exact ⟨rfl, H.out.setQ .EV, gset B S _ _⟩
  · skip
    by_cases q1 : c = 92
    · have e : stepM .IS s c = (s.to .ISE, 0) := by simp only [stepM]; (repeat' split) <;> first | rfl | contradiction | (exfalso; omega)
      rw [e]
      clear e
      subst q1
      go_enter Tryd.func99, Tryd.ntmps99
      go_wp2
      go_ret
      exact ⟨rfl, H.out.setQ .ISE, gset B S _ _⟩
    · skip
      by_cases q2 : 0 ≤ c ∧ c ≤ 31
      · have e : stepM .IS s c = errM s := by simp only [stepM]; (repeat' split) <;> first | rfl | contradiction | (exfalso; omega)
        rw [e]
        clear e
        obtain ⟨r1, r2⟩ := q2
        have b34 : (c == 34) = false := by simp; omega
        have b92 : (c == 92) = false := by simp; omega
        clear q0 q1 hok
        go_enter Tryd.func99, Tryd.ntmps99
        go_wp2_with fail
        refine (HE.out _ _ H.out (by decide)).mono ?_
        rintro e w2 ⟨rfl, h2, g2⟩
        have H2 := Lib.hid h2
        have G2 := Lib.hid g2
        clear h2 g2
        go_wp2
        go_ret
        exact ⟨rfl, H2.out, G2.out⟩
      · skip
        have e : stepM .IS s c = (s, 0) := by simp only [stepM]; (repeat' split) <;> first | rfl | contradiction | (exfalso; omega)
        rw [e]
        clear e
        have b34 : (c == 34) = false := by simp; omega
        have b92 : (c == 92) = false := by simp; omega
        have hdis : (31 < c) := by omega
        clear q0 q1 q2 hok
        have z1 := hdis
        clear hdis
        go_enter Tryd.func99, Tryd.ntmps99
        go_wp2
        go_ret
        exact ⟨rfl, H.out, Gr2.refl B _ S S⟩
set_option maxRecDepth 100000 in
set_option maxHeartbeats 2000000 in
theorem st_ISE (S B : Nat) (s : Cfg) (c : Int) (w : World) (h : ScAt w S B s) (hok : okC s) (hc : 0 ≤ c) :
    Calls Tryd.prog 110 #[.pointer (some ⟨S, 0, none⟩), .int .u8 c] w (StepPost S B (stepM .ISE s c) w) := by
  have H := Lib.hid h
  have HE : Hid (∀ m W, ScAt W S B s → m.size ≤ 100 → Calls Tryd.prog 106 #[.pointer (some ⟨S, 0, none⟩), .int .u8 c, .string m] W (StepPost S B (errM s) W)) := Lib.hid fun m W a b => errS S B s c m W a b
  have HEV : Hid (∀ W, ScAt W S B s → Calls Tryd.prog 108 #[.pointer (some ⟨S, 0, none⟩), .int .u8 c] W (StepPost S B (endValM s c) W)) := Lib.hid fun W a => endValS S B s c W a hok.1 (Nat.le_of_lt hok.2)
  have c0 := h.c0
  have f0 := h.fz 0
  clear h
  by_cases q0 : c = 34 ∨ c = 92 ∨ c = 47 ∨ c = 98 ∨ c = 102 ∨ c = 110 ∨ c = 114 ∨ c = 116
  · have e : stepM .ISE s c = (s.to .IS, 0) := by simp only [stepM]; (repeat' split) <;> first | rfl | contradiction | (exfalso; simp only [esc8] at *; omega)
    rw [e]
    clear e
    rcases q0 with rfl | rfl | rfl | rfl | rfl | rfl | rfl | rfl
    all_goals (
      clear hok
      go_enter Tryd.func110, Tryd.ntmps110
      go_wp2
      go_ret
      exact ⟨rfl, H.out.setQ .IS, gset B S _ _⟩)
  · skip
    by_cases q1 : c = 117
    · have e : stepM .ISE s c = (s.to .U, 0) := by simp only [stepM]; (repeat' split) <;> first | rfl | contradiction | (exfalso; simp only [esc8] at *; omega)
      rw [e]
      clear e
      subst q1
      go_enter Tryd.func110, Tryd.ntmps110
      go_wp2
      go_ret
      exact ⟨rfl, H.out.setQ .U, gset B S _ _⟩
    · skip
      have e : stepM .ISE s c = errM s := by simp only [stepM]; (repeat' split) <;> first | rfl | contradiction | (exfalso; simp only [esc8] at *; omega)
      rw [e]
      clear e
      have b34 : (c == 34) = false := by simp; omega
      have b92 : (c == 92) = false := by simp; omega
      have b47 : (c == 47) = false := by simp; omega
      have b98 : (c == 98) = false := by simp; omega
      have b102 : (c == 102) = false := by simp; omega
      have b110 : (c == 110) = false := by simp; omega
      have b114 : (c == 114) = false := by simp; omega
      have b116 : (c == 116) = false := by simp; omega
      have b117 : (c == 117) = false := by simp; omega
      clear q0 q1 hok
      go_enter Tryd.func110, Tryd.ntmps110
      go_wp2_with fail
      refine (HE.out _ _ H.out (by decide)).mono ?_
      rintro e w2 ⟨rfl, h2, g2⟩
      have H2 := Lib.hid h2
      have G2 := Lib.hid g2
      clear h2 g2
      go_wp2
      go_ret
      exact ⟨rfl, H2.out, G2.out⟩
set_option maxRecDepth 100000 in
set_option maxHeartbeats 2000000 in
theorem st_U (S B : Nat) (s : Cfg) (c : Int) (w : World) (h : ScAt w S B s) (hok : okC s) (hc : 0 ≤ c) :
    Calls Tryd.prog 120 #[.pointer (some ⟨S, 0, none⟩), .int .u8 c] w (StepPost S B (stepM .U s c) w) := by
  have H := Lib.hid h
  have HE : Hid (∀ m W, ScAt W S B s → m.size ≤ 100 → Calls Tryd.prog 106 #[.pointer (some ⟨S, 0, none⟩), .int .u8 c, .string m] W (StepPost S B (errM s) W)) := Lib.hid fun m W a b => errS S B s c m W a b
  have HEV : Hid (∀ W, ScAt W S B s → Calls Tryd.prog 108 #[.pointer (some ⟨S, 0, none⟩), .int .u8 c] W (StepPost S B (endValM s c) W)) := Lib.hid fun W a => endValS S B s c W a hok.1 (Nat.le_of_lt hok.2)
  have c0 := h.c0
  have f0 := h.fz 0
  clear h
  by_cases q0 : 48 ≤ c ∧ c ≤ 57
  · have e : stepM .U s c = (s.to .U1, 0) := by simp only [stepM]; (repeat' split) <;> first | rfl | contradiction | (exfalso; simp only [hexB] at *; omega)
    rw [e]
    clear e
    obtain ⟨r1, r2⟩ := q0
    clear hok
    go_enter Tryd.func120, Tryd.ntmps120
    go_wp2
    go_ret
    exact ⟨rfl, H.out.setQ .U1, gset B S _ _⟩
  · skip
    by_cases q1 : 97 ≤ c ∧ c ≤ 102
    · have e : stepM .U s c = (s.to .U1, 0) := by simp only [stepM]; (repeat' split) <;> first | rfl | contradiction | (exfalso; simp only [hexB] at *; omega)
      rw [e]
      clear e
      obtain ⟨r1, r2⟩ := q1
      clear q0 hok
      go_enter Tryd.func120, Tryd.ntmps120
      go_wp2
      go_ret
      exact ⟨rfl, H.out.setQ .U1, gset B S _ _⟩
    · skip
      by_cases q2 : 65 ≤ c ∧ c ≤ 70
      · have e : stepM .U s c = (s.to .U1, 0) := by simp only [stepM]; (repeat' split) <;> first | rfl | contradiction | (exfalso; simp only [hexB] at *; omega)
        rw [e]
        clear e
        obtain ⟨r1, r2⟩ := q2
        clear q0 q1 hok
        go_enter Tryd.func120, Tryd.ntmps120
        go_wp2
        go_ret
        exact ⟨rfl, H.out.setQ .U1, gset B S _ _⟩
      · skip
        have e : stepM .U s c = errM s := by simp only [stepM]; (repeat' split) <;> first | rfl | contradiction | (exfalso; simp only [hexB] at *; omega)
        rw [e]
        clear e
        have hdis : (c < 48) ∨ (57 < c ∧ c < 65) ∨ (70 < c ∧ c < 97) ∨ (102 < c) := by omega
        clear q0 q1 q2 hok
        rcases hdis with z1 | ⟨z1, z2⟩ | ⟨z1, z2⟩ | z1
        · skip
          go_enter Tryd.func120, Tryd.ntmps120
          go_wp2_with fail
          refine (HE.out _ _ H.out (by decide)).mono ?_
          rintro e w2 ⟨rfl, h2, g2⟩
          have H2 := Lib.hid h2
          have G2 := Lib.hid g2
          clear h2 g2
          go_wp2
          go_ret
          exact ⟨rfl, H2.out, G2.out⟩
        · skip
          go_enter Tryd.func120, Tryd.ntmps120
          go_wp2_with fail
          refine (HE.out _ _ H.out (by decide)).mono ?_
          rintro e w2 ⟨rfl, h2, g2⟩
          have H2 := Lib.hid h2
          have G2 := Lib.hid g2
          clear h2 g2
          go_wp2
          go_ret
          exact ⟨rfl, H2.out, G2.out⟩
        · skip
          go_enter Tryd.func120, Tryd.ntmps120
          go_wp2_with fail
          refine (HE.out _ _ H.out (by decide)).mono ?_
          rintro e w2 ⟨rfl, h2, g2⟩
          have H2 := Lib.hid h2
          have G2 := Lib.hid g2
          clear h2 g2
          go_wp2
          go_ret
          exact ⟨rfl, H2.out, G2.out⟩
        · skip
          go_enter Tryd.func120, Tryd.ntmps120
          go_wp2_with fail
          refine (HE.out _ _ H.out (by decide)).mono ?_
          rintro e w2 ⟨rfl, h2, g2⟩
          have H2 := Lib.hid h2
          have G2 := Lib.hid g2
          clear h2 g2
          go_wp2
          go_ret
          exact ⟨rfl, H2.out, G2.out⟩
set_option maxRecDepth 100000 in
set_option maxHeartbeats 2000000 in
theorem st_U1 (S B : Nat) (s : Cfg) (c : Int) (w : World) (h : ScAt w S B s) (hok : okC s) (hc : 0 ≤ c) :
    Calls Tryd.prog 126 #[.pointer (some ⟨S, 0, none⟩), .int .u8 c] w (StepPost S B (stepM .U1 s c) w) := by
  have H := Lib.hid h
  have HE : Hid (∀ m W, ScAt W S B s → m.size ≤ 100 → Calls Tryd.prog 106 #[.pointer (some ⟨S, 0, none⟩), .int .u8 c, .string m] W (StepPost S B (errM s) W)) := Lib.hid fun m W a b => errS S B s c m W a b
  have HEV : Hid (∀ W, ScAt W S B s → Calls Tryd.prog 108 #[.pointer (some ⟨S, 0, none⟩), .int .u8 c] W (StepPost S B (endValM s c) W)) := Lib.hid fun W a => endValS S B s c W a hok.1 (Nat.le_of_lt hok.2)
  have c0 := h.c0
  have f0 := h.fz 0
  clear h
  by_cases q0 : 48 ≤ c ∧ c ≤ 57
  · have e : stepM .U1 s c = (s.to .U12, 0) := by simp only [stepM]; (repeat' split) <;> first | rfl | contradiction | (exfalso; simp only [hexB] at *; omega)
    rw [e]
    clear e
    obtain ⟨r1, r2⟩ := q0
    clear hok
    go_enter Tryd.func126, Tryd.ntmps126
    go_wp2
    go_ret
    exact ⟨rfl, H.out.setQ .U12, gset B S _ _⟩
  · skip
    by_cases q1 : 97 ≤ c ∧ c ≤ 102
    · have e : stepM .U1 s c = (s.to .U12, 0) := by simp only [stepM]; (repeat' split) <;> first | rfl | contradiction | (exfalso; simp only [hexB] at *; omega)
      rw [e]
      clear e
      obtain ⟨r1, r2⟩ := q1
      clear q0 hok
      go_enter Tryd.func126, Tryd.ntmps126
      go_wp2
      go_ret
      exact ⟨rfl, H.out.setQ .U12, gset B S _ _⟩
    · skip
      by_cases q2 : 65 ≤ c ∧ c ≤ 70
      · have e : stepM .U1 s c = (s.to .U12, 0) := by simp only [stepM]; (repeat' split) <;> first | rfl | contradiction | (exfalso; simp only [hexB] at *; omega)
        rw [e]
        clear e
        obtain ⟨r1, r2⟩ := q2
        clear q0 q1 hok
        go_enter Tryd.func126, Tryd.ntmps126
        go_wp2
        go_ret
        exact ⟨rfl, H.out.setQ .U12, gset B S _ _⟩
      · skip
        have e : stepM .U1 s c = errM s := by simp only [stepM]; (repeat' split) <;> first | rfl | contradiction | (exfalso; simp only [hexB] at *; omega)
        rw [e]
        clear e
        have hdis : (c < 48) ∨ (57 < c ∧ c < 65) ∨ (70 < c ∧ c < 97) ∨ (102 < c) := by omega
        clear q0 q1 q2 hok
        rcases hdis with z1 | ⟨z1, z2⟩ | ⟨z1, z2⟩ | z1
        · skip
          go_enter Tryd.func126, Tryd.ntmps126
          go_wp2_with fail
          refine (HE.out _ _ H.out (by decide)).mono ?_
          rintro e w2 ⟨rfl, h2, g2⟩
          have H2 := Lib.hid h2
          have G2 := Lib.hid g2
          clear h2 g2
          go_wp2
          go_ret
          exact ⟨rfl, H2.out, G2.out⟩
        · skip
          go_enter Tryd.func126, Tryd.ntmps126
          go_wp2_with fail
          refine (HE.out _ _ H.out (by decide)).mono ?_
          rintro e w2 ⟨rfl, h2, g2⟩
          have H2 := Lib.hid h2
          have G2 := Lib.hid g2
          clear h2 g2
          go_wp2
          go_ret
          exact ⟨rfl, H2.out, G2.out⟩
        · skip
          go_enter Tryd.func126, Tryd.ntmps126
          go_wp2_with fail
          refine (HE.out _ _ H.out (by decide)).mono ?_
          rintro e w2 ⟨rfl, h2, g2⟩
          have H2 := Lib.hid h2
          have G2 := Lib.hid g2
          clear h2 g2
          go_wp2
          go_ret
          exact ⟨rfl, H2.out, G2.out⟩
        · skip
          go_enter Tryd.func126, Tryd.ntmps126
          go_wp2_with fail
          refine (HE.out _ _ H.out (by decide)).mono ?_
          rintro e w2 ⟨rfl, h2, g2⟩
          have H2 := Lib.hid h2
          have G2 := Lib.hid g2
          clear h2 g2
          go_wp2
          go_ret
          exact ⟨rfl, H2.out, G2.out⟩
set_option maxRecDepth 100000 in
set_option maxHeartbeats 2000000 in
theorem st_U12 (S B : Nat) (s : Cfg) (c : Int) (w : World) (h : ScAt w S B s) (hok : okC s) (hc : 0 ≤ c) :
    Calls Tryd.prog 129 #[.pointer (some ⟨S, 0, none⟩), .int .u8 c] w (StepPost S B (stepM .U12 s c) w) := by
  have H := Lib.hid h
  have HE : Hid (∀ m W, ScAt W S B s → m.size ≤ 100 → Calls Tryd.prog 106 #[.pointer (some ⟨S, 0, none⟩), .int .u8 c, .string m] W (StepPost S B (errM s) W)) := Lib.hid fun m W a b => errS S B s c m W a b
  have HEV : Hid (∀ W, ScAt W S B s → Calls Tryd.prog 108 #[.pointer (some ⟨S, 0, none⟩), .int .u8 c] W (StepPost S B (endValM s c) W)) := Lib.hid fun W a => endValS S B s c W a hok.1 (Nat.le_of_lt hok.2)
  have c0 := h.c0
  have f0 := h.fz 0
  clear h
  by_cases q0 : 48 ≤ c ∧ c ≤ 57
  · have e : stepM .U12 s c = (s.to .U123, 0) := by simp only [stepM]; (repeat' split) <;> first | rfl | contradiction | (exfalso; simp only [hexB] at *; omega)
    rw [e]
    clear e
    obtain ⟨r1, r2⟩ := q0
    clear hok
    go_enter Tryd.func129, Tryd.ntmps129
    go_wp2
    go_ret
    exact ⟨rfl, H.out.setQ .U123, gset B S _ _⟩
  · skip
    by_cases q1 : 97 ≤ c ∧ c ≤ 102
    · have e : stepM .U12 s c = (s.to .U123, 0) := by simp only [stepM]; (repeat' split) <;> first | rfl | contradiction | (exfalso; simp only [hexB] at *; omega)
      rw [e]
      clear e
      obtain ⟨r1, r2⟩ := q1
      clear q0 hok
      go_enter Tryd.func129, Tryd.ntmps129
      go_wp2
      go_ret
      exact ⟨rfl, H.out.setQ .U123, gset B S _ _⟩
    · skip
      by_cases q2 : 65 ≤ c ∧ c ≤ 70
      · have e : stepM .U12 s c = (s.to .U123, 0) := by simp only [stepM]; (repeat' split) <;> first | rfl | contradiction | (exfalso; simp only [hexB] at *; omega)
        rw [e]
        clear e
        obtain ⟨r1, r2⟩ := q2
        clear q0 q1 hok
        go_enter Tryd.func129, Tryd.ntmps129
        go_wp2
        go_ret
        exact ⟨rfl, H.out.setQ .U123, gset B S _ _⟩
      · skip
        have e : stepM .U12 s c = errM s := by simp only [stepM]; (repeat' split) <;> first | rfl | contradiction | (exfalso; simp only [hexB] at *; omega)
        rw [e]
        clear e
        have hdis : (c < 48) ∨ (57 < c ∧ c < 65) ∨ (70 < c ∧ c < 97) ∨ (102 < c) := by omega
        clear q0 q1 q2 hok
        rcases hdis with z1 | ⟨z1, z2⟩ | ⟨z1, z2⟩ | z1
        · skip
          go_enter Tryd.func129, Tryd.ntmps129
          go_wp2_with fail
          refine (HE.out _ _ H.out (by decide)).mono ?_
          rintro e w2 ⟨rfl, h2, g2⟩
          have H2 := Lib.hid h2
          have G2 := Lib.hid g2
          clear h2 g2
          go_wp2
          go_ret
          exact ⟨rfl, H2.out, G2.out⟩
        · skip
          go_enter Tryd.func129, Tryd.ntmps129
          go_wp2_with fail
          refine (HE.out _ _ H.out (by decide)).mono ?_
          rintro e w2 ⟨rfl, h2, g2⟩
          have H2 := Lib.hid h2
          have G2 := Lib.hid g2
          clear h2 g2
          go_wp2
          go_ret
          exact ⟨rfl, H2.out, G2.out⟩
        · skip
          go_enter Tryd.func129, Tryd.ntmps129
          go_wp2_with fail
          refine (HE.out _ _ H.out (by decide)).mono ?_
          rintro e w2 ⟨rfl, h2, g2⟩
          have H2 := Lib.hid h2
          have G2 := Lib.hid g2
          clear h2 g2
          go_wp2
          go_ret
          exact ⟨rfl, H2.out, G2.out⟩
        · skip
          go_enter Tryd.func129, Tryd.ntmps129
          go_wp2_with fail
          refine (HE.out _ _ H.out (by decide)).mono ?_
          rintro e w2 ⟨rfl, h2, g2⟩
          have H2 := Lib.hid h2
          have G2 := Lib.hid g2
          clear h2 g2
          go_wp2
          go_ret
          exact ⟨rfl, H2.out, G2.out⟩
set_option maxRecDepth 100000 in
set_option maxHeartbeats 2000000 in
theorem st_U123 (S B : Nat) (s : Cfg) (c : Int) (w : World) (h : ScAt w S B s) (hok : okC s) (hc : 0 ≤ c) :
    Calls Tryd.prog 130 #[.pointer (some ⟨S, 0, none⟩), .int .u8 c] w (StepPost S B (stepM .U123 s c) w) := by
  have H := Lib.hid h
  have HE : Hid (∀ m W, ScAt W S B s → m.size ≤ 100 → Calls Tryd.prog 106 #[.pointer (some ⟨S, 0, none⟩), .int .u8 c, .string m] W (StepPost S B (errM s) W)) := Lib.hid fun m W a b => errS S B s c m W a b
  have HEV : Hid (∀ W, ScAt W S B s → Calls Tryd.prog 108 #[.pointer (some ⟨S, 0, none⟩), .int .u8 c] W (StepPost S B (endValM s c) W)) := Lib.hid fun W a => endValS S B s c W a hok.1 (Nat.le_of_lt hok.2)
  have c0 := h.c0
  have f0 := h.fz 0
  clear h
  by_cases q0 : 48 ≤ c ∧ c ≤ 57
  · have e : stepM .U123 s c = (s.to .IS, 0) := by simp only [stepM]; (repeat' split) <;> first | rfl | contradiction | (exfalso; simp only [hexB] at *; omega)
    rw [e]
    clear e
    obtain ⟨r1, r2⟩ := q0
    clear hok
    go_enter Tryd.func130, Tryd.ntmps130
    go_wp2
    go_ret
    exact ⟨rfl, H.out.setQ .IS, gset B S _ _⟩
  · skip
    by_cases q1 : 97 ≤ c ∧ c ≤ 102
    · have e : stepM .U123 s c = (s.to .IS, 0) := by simp only [stepM]; (repeat' split) <;> first | rfl | contradiction | (exfalso; simp only [hexB] at *; omega)
      rw [e]
      clear e
      obtain ⟨r1, r2⟩ := q1
      clear q0 hok
      go_enter Tryd.func130, Tryd.ntmps130
      go_wp2
      go_ret
      exact ⟨rfl, H.out.setQ .IS, gset B S _ _⟩
    · skip
      by_cases q2 : 65 ≤ c ∧ c ≤ 70
      · have e : stepM .U123 s c = (s.to .IS, 0) := by simp only [stepM]; (repeat' split) <;> first | rfl | contradiction | (exfalso; simp only [hexB] at *; omega)
        rw [e]
        clear e
        obtain ⟨r1, r2⟩ := q2
        clear q0 q1 hok
        go_enter Tryd.func130, Tryd.ntmps130
        go_wp2
        go_ret
        exact ⟨rfl, H.out.setQ .IS, gset B S _ _⟩
      · skip
        have e : stepM .U123 s c = errM s := by simp only [stepM]; (repeat' split) <;> first | rfl | contradiction | (exfalso; simp only [hexB] at *; omega)
        rw [e]
        clear e
        have hdis : (c < 48) ∨ (57 < c ∧ c < 65) ∨ (70 < c ∧ c < 97) ∨ (102 < c) := by omega
        clear q0 q1 q2 hok
        rcases hdis with z1 | ⟨z1, z2⟩ | ⟨z1, z2⟩ | z1
        · skip
          go_enter Tryd.func130, Tryd.ntmps130
          go_wp2_with fail
          refine (HE.out _ _ H.out (by decide)).mono ?_
          rintro e w2 ⟨rfl, h2, g2⟩
          have H2 := Lib.hid h2
          have G2 := Lib.hid g2
          clear h2 g2
          go_wp2
          go_ret
          exact ⟨rfl, H2.out, G2.out⟩
        · skip
          go_enter Tryd.func130, Tryd.ntmps130
          go_wp2_with fail
          refine (HE.out _ _ H.out (by decide)).mono ?_
          rintro e w2 ⟨rfl, h2, g2⟩
          have H2 := Lib.hid h2
          have G2 := Lib.hid g2
          clear h2 g2
          go_wp2
          go_ret
          exact ⟨rfl, H2.out, G2.out⟩
        · skip
          go_enter Tryd.func130, Tryd.ntmps130
          go_wp2_with fail
          refine (HE.out _ _ H.out (by decide)).mono ?_
          rintro e w2 ⟨rfl, h2, g2⟩
          have H2 := Lib.hid h2
          have G2 := Lib.hid g2
          clear h2 g2
          go_wp2
          go_ret
          exact ⟨rfl, H2.out, G2.out⟩
        · skip
          go_enter Tryd.func130, Tryd.ntmps130
          go_wp2_with fail
          refine (HE.out _ _ H.out (by decide)).mono ?_
          rintro e w2 ⟨rfl, h2, g2⟩
          have H2 := Lib.hid h2
          have G2 := Lib.hid g2
          clear h2 g2
          go_wp2
          go_ret
          exact ⟨rfl, H2.out, G2.out⟩
set_option maxRecDepth 100000 in
set_option maxHeartbeats 2000000 in
theorem st_Neg (S B : Nat) (s : Cfg) (c : Int) (w : World) (h : ScAt w S B s) (hok : okC s) (hc : 0 ≤ c) :
    Calls Tryd.prog 100 #[.pointer (some ⟨S, 0, none⟩), .int .u8 c] w (StepPost S B (stepM .Neg s c) w) := by
  have H := Lib.hid h
  have HE : Hid (∀ m W, ScAt W S B s → m.size ≤ 100 → Calls Tryd.prog 106 #[.pointer (some ⟨S, 0, none⟩), .int .u8 c, .string m] W (StepPost S B (errM s) W)) := Lib.hid fun m W a b => errS S B s c m W a b
  have HEV : Hid (∀ W, ScAt W S B s → Calls Tryd.prog 108 #[.pointer (some ⟨S, 0, none⟩), .int .u8 c] W (StepPost S B (endValM s c) W)) := Lib.hid fun W a => endValS S B s c W a hok.1 (Nat.le_of_lt hok.2)
  have c0 := h.c0
  have f0 := h.fz 0
  clear h
  by_cases q0 : c = 48
  · have e : stepM .Neg s c = (s.to .S0, 0) := by simp only [stepM]; (repeat' split) <;> first | rfl | contradiction | (exfalso; omega)
    rw [e]
    clear e
    subst q0
    go_enter Tryd.func100, Tryd.ntmps100
    go_wp2
    go_ret
    exact ⟨rfl, H.out.setQ .S0, gset B S _ _⟩
  · skip
    by_cases q1 : 49 ≤ c ∧ c ≤ 57
    · have e : stepM .Neg s c = (s.to .S1, 0) := by simp only [stepM]; (repeat' split) <;> first | rfl | contradiction | (exfalso; omega)
      rw [e]
      clear e
      obtain ⟨r1, r2⟩ := q1
      have b48 : (c == 48) = false := by simp; omega
      clear q0 hok
      go_enter Tryd.func100, Tryd.ntmps100
      go_wp2
      go_ret
      exact ⟨rfl, H.out.setQ .S1, gset B S _ _⟩
    · skip
      have e : stepM .Neg s c = errM s := by simp only [stepM]; (repeat' split) <;> first | rfl | contradiction | (exfalso; omega)
      rw [e]
      clear e
      have b48 : (c == 48) = false := by simp; omega
      have hdis : (c < 49) ∨ (57 < c) := by omega
      clear q0 q1 hok
      rcases hdis with z1 | z1
      · skip
        go_enter Tryd.func100, Tryd.ntmps100
        go_wp2_with fail
        refine (HE.out _ _ H.out (by decide)).mono ?_
        rintro e w2 ⟨rfl, h2, g2⟩
        have H2 := Lib.hid h2
        have G2 := Lib.hid g2
        clear h2 g2
        go_wp2
        go_ret
        exact ⟨rfl, H2.out, G2.out⟩
      · skip
        go_enter Tryd.func100, Tryd.ntmps100
        go_wp2_with fail
        refine (HE.out _ _ H.out (by decide)).mono ?_
        rintro e w2 ⟨rfl, h2, g2⟩
        have H2 := Lib.hid h2
        have G2 := Lib.hid g2
        clear h2 g2
        go_wp2
        go_ret
        exact ⟨rfl, H2.out, G2.out⟩
set_option maxRecDepth 100000 in
set_option maxHeartbeats 2000000 in
theorem st_S0 (S B : Nat) (s : Cfg) (c : Int) (w : World) (h : ScAt w S B s) (hok : okC s) (hc : 0 ≤ c) :
    Calls Tryd.prog 101 #[.pointer (some ⟨S, 0, none⟩), .int .u8 c] w (StepPost S B (stepM .S0 s c) w) := by
  have H := Lib.hid h
  have HE : Hid (∀ m W, ScAt W S B s → m.size ≤ 100 → Calls Tryd.prog 106 #[.pointer (some ⟨S, 0, none⟩), .int .u8 c, .string m] W (StepPost S B (errM s) W)) := Lib.hid fun m W a b => errS S B s c m W a b
  have HEV : Hid (∀ W, ScAt W S B s → Calls Tryd.prog 108 #[.pointer (some ⟨S, 0, none⟩), .int .u8 c] W (StepPost S B (endValM s c) W)) := Lib.hid fun W a => endValS S B s c W a hok.1 (Nat.le_of_lt hok.2)
  have c0 := h.c0
  have f0 := h.fz 0
  clear h
  by_cases q0 : c = 46
  · have e : stepM .S0 s c = (s.to .Dot, 0) := by simp only [stepM, s0M]; (repeat' split) <;> first | rfl | contradiction | (exfalso; omega)
    rw [e]
    clear e
    subst q0
    go_enter Tryd.func101, Tryd.ntmps101
    go_wp2
    go_ret
    exact ⟨rfl, H.out.setQ .Dot, gset B S _ _⟩
  · skip
    by_cases q1 : c = 101 ∨ c = 69
    · have e : stepM .S0 s c = (s.to .E, 0) := by simp only [stepM, s0M]; (repeat' split) <;> first | rfl | contradiction | (exfalso; omega)
      rw [e]
      clear e
      rcases q1 with rfl | rfl
      all_goals (
        clear hok
        go_enter Tryd.func101, Tryd.ntmps101
        go_wp2
        go_ret
        exact ⟨rfl, H.out.setQ .E, gset B S _ _⟩)
    · skip
      have e : stepM .S0 s c = endValM s c := by simp only [stepM, s0M]; (repeat' split) <;> first | rfl | contradiction | (exfalso; omega)
      rw [e]
      clear e
      have b46 : (c == 46) = false := by simp; omega
      have b101 : (c == 101) = false := by simp; omega
      have b69 : (c == 69) = false := by simp; omega
      clear q0 q1 hok
      go_enter Tryd.func101, Tryd.ntmps101
      go_wp2_with fail
      refine (HEV.out _ H.out).mono ?_
      rintro e w2 ⟨rfl, h2, g2⟩
      have H2 := Lib.hid h2
      have G2 := Lib.hid ((Gr2.refl B _ S S).trans g2)
      clear h2 g2
      go_wp2
      go_ret
      exact ⟨rfl, H2.out, G2.out⟩
set_option maxRecDepth 100000 in
set_option maxHeartbeats 2000000 in
theorem st_S1 (S B : Nat) (s : Cfg) (c : Int) (w : World) (h : ScAt w S B s) (hok : okC s) (hc : 0 ≤ c) :
    Calls Tryd.prog 105 #[.pointer (some ⟨S, 0, none⟩), .int .u8 c] w (StepPost S B (stepM .S1 s c) w) := by
  have H := Lib.hid h
  have HE : Hid (∀ m W, ScAt W S B s → m.size ≤ 100 → Calls Tryd.prog 106 #[.pointer (some ⟨S, 0, none⟩), .int .u8 c, .string m] W (StepPost S B (errM s) W)) := Lib.hid fun m W a b => errS S B s c m W a b
  have HEV : Hid (∀ W, ScAt W S B s → Calls Tryd.prog 108 #[.pointer (some ⟨S, 0, none⟩), .int .u8 c] W (StepPost S B (endValM s c) W)) := Lib.hid fun W a => endValS S B s c W a hok.1 (Nat.le_of_lt hok.2)
  have c0 := h.c0
  have f0 := h.fz 0
  have HS0 : Hid (∀ W, ScAt W S B s → Calls Tryd.prog 101 #[.pointer (some ⟨S, 0, none⟩), .int .u8 c] W (StepPost S B (stepM .S0 s c) W)) := Lib.hid fun W a => st_S0 S B s c W a hok hc
  clear h
  by_cases q0 : 48 ≤ c ∧ c ≤ 57
  · have e : stepM .S1 s c = (s.to .S1, 0) := by simp only [stepM, s1M]; (repeat' split) <;> first | rfl | contradiction | (exfalso; simp only [digB] at *; omega)
    rw [e]
    clear e
    obtain ⟨r1, r2⟩ := q0
    clear hok
    go_enter Tryd.func105, Tryd.ntmps105
    go_wp2
    go_ret
    exact ⟨rfl, H.out.setQ .S1, gset B S _ _⟩
  · skip
    have e : stepM .S1 s c = stepM .S0 s c := by simp only [stepM, s1M]; (repeat' split) <;> first | rfl | contradiction | (exfalso; simp only [digB] at *; omega)
    rw [e]
    clear e
    have hdis : (c < 48) ∨ (57 < c) := by omega
    clear q0 hok
    rcases hdis with z1 | z1
    · skip
      go_enter Tryd.func105, Tryd.ntmps105
      go_wp2_with fail
      refine (HS0.out _ H.out).mono ?_
      rintro e w2 ⟨rfl, h2, g2⟩
      have H2 := Lib.hid h2
      have G2 := Lib.hid ((Gr2.refl B _ S S).trans g2)
      clear h2 g2
      go_wp2
      go_ret
      exact ⟨rfl, H2.out, G2.out⟩
    · skip
      go_enter Tryd.func105, Tryd.ntmps105
      go_wp2_with fail
      refine (HS0.out _ H.out).mono ?_
      rintro e w2 ⟨rfl, h2, g2⟩
      have H2 := Lib.hid h2
      have G2 := Lib.hid ((Gr2.refl B _ S S).trans g2)
      clear h2 g2
      go_wp2
      go_ret
      exact ⟨rfl, H2.out, G2.out⟩
set_option maxRecDepth 100000 in
set_option maxHeartbeats 2000000 in
theorem st_Dot (S B : Nat) (s : Cfg) (c : Int) (w : World) (h : ScAt w S B s) (hok : okC s) (hc : 0 ≤ c) :
    Calls Tryd.prog 111 #[.pointer (some ⟨S, 0, none⟩), .int .u8 c] w (StepPost S B (stepM .Dot s c) w) := by
  have H := Lib.hid h
  have HE : Hid (∀ m W, ScAt W S B s → m.size ≤ 100 → Calls Tryd.prog 106 #[.pointer (some ⟨S, 0, none⟩), .int .u8 c, .string m] W (StepPost S B (errM s) W)) := Lib.hid fun m W a b => errS S B s c m W a b
  have HEV : Hid (∀ W, ScAt W S B s → Calls Tryd.prog 108 #[.pointer (some ⟨S, 0, none⟩), .int .u8 c] W (StepPost S B (endValM s c) W)) := Lib.hid fun W a => endValS S B s c W a hok.1 (Nat.le_of_lt hok.2)
  have c0 := h.c0
  have f0 := h.fz 0
  clear h
  by_cases q0 : 48 ≤ c ∧ c ≤ 57
  · have e : stepM .Dot s c = (s.to .Dot0, 0) := by simp only [stepM]; (repeat' split) <;> first | rfl | contradiction | (exfalso; simp only [digB] at *; omega)
    rw [e]
    clear e
    obtain ⟨r1, r2⟩ := q0
    clear hok
    go_enter Tryd.func111, Tryd.ntmps111
    go_wp2
    go_ret
    exact ⟨rfl, H.out.setQ .Dot0, gset B S _ _⟩
  · skip
    have e : stepM .Dot s c = errM s := by simp only [stepM]; (repeat' split) <;> first | rfl | contradiction | (exfalso; simp only [digB] at *; omega)
    rw [e]
    clear e
    have hdis : (c < 48) ∨ (57 < c) := by omega
    clear q0 hok
    rcases hdis with z1 | z1
    · skip
      go_enter Tryd.func111, Tryd.ntmps111
      go_wp2_with fail
      refine (HE.out _ _ H.out (by decide)).mono ?_
      rintro e w2 ⟨rfl, h2, g2⟩
      have H2 := Lib.hid h2
      have G2 := Lib.hid g2
      clear h2 g2
      go_wp2
      go_ret
      exact ⟨rfl, H2.out, G2.out⟩
    · skip
      go_enter Tryd.func111, Tryd.ntmps111
      go_wp2_with fail
      refine (HE.out _ _ H.out (by decide)).mono ?_
      rintro e w2 ⟨rfl, h2, g2⟩
      have H2 := Lib.hid h2
      have G2 := Lib.hid g2
      clear h2 g2
      go_wp2
      go_ret
      exact ⟨rfl, H2.out, G2.out⟩
set_option maxRecDepth 100000 in
set_option maxHeartbeats 2000000 in
theorem st_Dot0 (S B : Nat) (s : Cfg) (c : Int) (w : World) (h : ScAt w S B s) (hok : okC s) (hc : 0 ≤ c) :
    Calls Tryd.prog 121 #[.pointer (some ⟨S, 0, none⟩), .int .u8 c] w (StepPost S B (stepM .Dot0 s c) w) := by
  have H := Lib.hid h
  have HE : Hid (∀ m W, ScAt W S B s → m.size ≤ 100 → Calls Tryd.prog 106 #[.pointer (some ⟨S, 0, none⟩), .int .u8 c, .string m] W (StepPost S B (errM s) W)) := Lib.hid fun m W a b => errS S B s c m W a b
  have HEV : Hid (∀ W, ScAt W S B s → Calls Tryd.prog 108 #[.pointer (some ⟨S, 0, none⟩), .int .u8 c] W (StepPost S B (endValM s c) W)) := Lib.hid fun W a => endValS S B s c W a hok.1 (Nat.le_of_lt hok.2)
  have c0 := h.c0
  have f0 := h.fz 0
  clear h
  by_cases q0 : 48 ≤ c ∧ c ≤ 57
  · have e : stepM .Dot0 s c = (s, 0) := by simp only [stepM]; (repeat' split) <;> first | rfl | contradiction | (exfalso; simp only [digB] at *; omega)
    rw [e]
    clear e
    obtain ⟨r1, r2⟩ := q0
    have b101 : (c == 101) = false := by simp; omega
    have b69 : (c == 69) = false := by simp; omega
    clear hok
    go_enter Tryd.func121, Tryd.ntmps121
    go_wp2
    go_ret
    exact ⟨rfl, H.out, Gr2.refl B _ S S⟩
  · skip
    by_cases q1 : c = 101 ∨ c = 69
    · have e : stepM .Dot0 s c = (s.to .E, 0) := by simp only [stepM]; (repeat' split) <;> first | rfl | contradiction | (exfalso; simp only [digB] at *; omega)
      rw [e]
      clear e
      rcases q1 with rfl | rfl
      all_goals (
        clear hok
        go_enter Tryd.func121, Tryd.ntmps121
        go_wp2
        go_ret
        exact ⟨rfl, H.out.setQ .E, gset B S _ _⟩)
    · skip
      have e : stepM .Dot0 s c = endValM s c := by simp only [stepM]; (repeat' split) <;> first | rfl | contradiction | (exfalso; simp only [digB] at *; omega)
      rw [e]
      clear e
      have b101 : (c == 101) = false := by simp; omega
      have b69 : (c == 69) = false := by simp; omega
      have hdis : (c < 48) ∨ (57 < c) := by omega
      clear q0 q1 hok
      rcases hdis with z1 | z1
      · skip
        go_enter Tryd.func121, Tryd.ntmps121
        go_wp2_with fail
        refine (HEV.out _ H.out).mono ?_
        rintro e w2 ⟨rfl, h2, g2⟩
        have H2 := Lib.hid h2
        have G2 := Lib.hid ((Gr2.refl B _ S S).trans g2)
        clear h2 g2
        go_wp2
        go_ret
        exact ⟨rfl, H2.out, G2.out⟩
      · skip
        go_enter Tryd.func121, Tryd.ntmps121
        go_wp2_with fail
        refine (HEV.out _ H.out).mono ?_
        rintro e w2 ⟨rfl, h2, g2⟩
        have H2 := Lib.hid h2
        have G2 := Lib.hid ((Gr2.refl B _ S S).trans g2)
        clear h2 g2
        go_wp2
        go_ret
        exact ⟨rfl, H2.out, G2.out⟩
set_option maxRecDepth 100000 in
set_option maxHeartbeats 2000000 in
theorem st_ESign (S B : Nat) (s : Cfg) (c : Int) (w : World) (h : ScAt w S B s) (hok : okC s) (hc : 0 ≤ c) :
    Calls Tryd.prog 122 #[.pointer (some ⟨S, 0, none⟩), .int .u8 c] w (StepPost S B (stepM .ESign s c) w) := by
  have H := Lib.hid h
  have HE : Hid (∀ m W, ScAt W S B s → m.size ≤ 100 → Calls Tryd.prog 106 #[.pointer (some ⟨S, 0, none⟩), .int .u8 c, .string m] W (StepPost S B (errM s) W)) := Lib.hid fun m W a b => errS S B s c m W a b
  have HEV : Hid (∀ W, ScAt W S B s → Calls Tryd.prog 108 #[.pointer (some ⟨S, 0, none⟩), .int .u8 c] W (StepPost S B (endValM s c) W)) := Lib.hid fun W a => endValS S B s c W a hok.1 (Nat.le_of_lt hok.2)
  have c0 := h.c0
  have f0 := h.fz 0
  clear h
  by_cases q0 : 48 ≤ c ∧ c ≤ 57
  · have e : stepM .ESign s c = (s.to .E0, 0) := by simp only [stepM, esM]; (repeat' split) <;> first | rfl | contradiction | (exfalso; simp only [digB] at *; omega)
    rw [e]
    clear e
    obtain ⟨r1, r2⟩ := q0
    clear hok
    go_enter Tryd.func122, Tryd.ntmps122
    go_wp2
    go_ret
    exact ⟨rfl, H.out.setQ .E0, gset B S _ _⟩
  · skip
    have e : stepM .ESign s c = errM s := by simp only [stepM, esM]; (repeat' split) <;> first | rfl | contradiction | (exfalso; simp only [digB] at *; omega)
    rw [e]
    clear e
    have hdis : (c < 48) ∨ (57 < c) := by omega
    clear q0 hok
    rcases hdis with z1 | z1
    · skip
      go_enter Tryd.func122, Tryd.ntmps122
      go_wp2_with fail
      refine (HE.out _ _ H.out (by decide)).mono ?_
      rintro e w2 ⟨rfl, h2, g2⟩
      have H2 := Lib.hid h2
      have G2 := Lib.hid g2
      clear h2 g2
      go_wp2
      go_ret
      exact ⟨rfl, H2.out, G2.out⟩
    · skip
      go_enter Tryd.func122, Tryd.ntmps122
      go_wp2_with fail
      refine (HE.out _ _ H.out (by decide)).mono ?_
      rintro e w2 ⟨rfl, h2, g2⟩
      have H2 := Lib.hid h2
      have G2 := Lib.hid g2
      clear h2 g2
      go_wp2
      go_ret
      exact ⟨rfl, H2.out, G2.out⟩
set_option maxRecDepth 100000 in
set_option maxHeartbeats 2000000 in
theorem st_E (S B : Nat) (s : Cfg) (c : Int) (w : World) (h : ScAt w S B s) (hok : okC s) (hc : 0 ≤ c) :
    Calls Tryd.prog 112 #[.pointer (some ⟨S, 0, none⟩), .int .u8 c] w (StepPost S B (stepM .E s c) w) := by
  have H := Lib.hid h
  have HE : Hid (∀ m W, ScAt W S B s → m.size ≤ 100 → Calls Tryd.prog 106 #[.pointer (some ⟨S, 0, none⟩), .int .u8 c, .string m] W (StepPost S B (errM s) W)) := Lib.hid fun m W a b => errS S B s c m W a b
  have HEV : Hid (∀ W, ScAt W S B s → Calls Tryd.prog 108 #[.pointer (some ⟨S, 0, none⟩), .int .u8 c] W (StepPost S B (endValM s c) W)) := Lib.hid fun W a => endValS S B s c W a hok.1 (Nat.le_of_lt hok.2)
  have c0 := h.c0
  have f0 := h.fz 0
  have HES : Hid (∀ W, ScAt W S B s → Calls Tryd.prog 122 #[.pointer (some ⟨S, 0, none⟩), .int .u8 c] W (StepPost S B (stepM .ESign s c) W)) := Lib.hid fun W a => st_ESign S B s c W a hok hc
  clear h
  by_cases q0 : c = 43 ∨ c = 45
  · have e : stepM .E s c = (s.to .ESign, 0) := by simp only [stepM]; (repeat' split) <;> first | rfl | contradiction | (exfalso; omega)
    rw [e]
    clear e
    rcases q0 with rfl | rfl
    all_goals (
      clear hok
      go_enter Tryd.func112, Tryd.ntmps112
      go_wp2
      go_ret
      exact ⟨rfl, H.out.setQ .ESign, gset B S _ _⟩)
  · skip
    have e : stepM .E s c = stepM .ESign s c := by simp only [stepM]; (repeat' split) <;> first | rfl | contradiction | (exfalso; omega)
    rw [e]
    clear e
    have b43 : (c == 43) = false := by simp; omega
    have b45 : (c == 45) = false := by simp; omega
    clear q0 hok
    go_enter Tryd.func112, Tryd.ntmps112
    go_wp2_with fail
    refine (HES.out _ H.out).mono ?_
    rintro e w2 ⟨rfl, h2, g2⟩
    have H2 := Lib.hid h2
    have G2 := Lib.hid ((Gr2.refl B _ S S).trans g2)
    clear h2 g2
    go_wp2
    go_ret
    exact ⟨rfl, H2.out, G2.out⟩
set_option maxRecDepth 100000 in
set_option maxHeartbeats 2000000 in
theorem st_E0 (S B : Nat) (s : Cfg) (c : Int) (w : World) (h : ScAt w S B s) (hok : okC s) (hc : 0 ≤ c) :
    Calls Tryd.prog 127 #[.pointer (some ⟨S, 0, none⟩), .int .u8 c] w (StepPost S B (stepM .E0 s c) w) := by
  have H := Lib.hid h
  have HE : Hid (∀ m W, ScAt W S B s → m.size ≤ 100 → Calls Tryd.prog 106 #[.pointer (some ⟨S, 0, none⟩), .int .u8 c, .string m] W (StepPost S B (errM s) W)) := Lib.hid fun m W a b => errS S B s c m W a b
  have HEV : Hid (∀ W, ScAt W S B s → Calls Tryd.prog 108 #[.pointer (some ⟨S, 0, none⟩), .int .u8 c] W (StepPost S B (endValM s c) W)) := Lib.hid fun W a => endValS S B s c W a hok.1 (Nat.le_of_lt hok.2)
  have c0 := h.c0
  have f0 := h.fz 0
  clear h
  by_cases q0 : 48 ≤ c ∧ c ≤ 57
  · have e : stepM .E0 s c = (s, 0) := by simp only [stepM]; (repeat' split) <;> first | rfl | contradiction | (exfalso; simp only [digB] at *; omega)
    rw [e]
    clear e
    obtain ⟨r1, r2⟩ := q0
    clear hok
    go_enter Tryd.func127, Tryd.ntmps127
    go_wp2
    go_ret
    exact ⟨rfl, H.out, Gr2.refl B _ S S⟩
  · skip
    have e : stepM .E0 s c = endValM s c := by simp only [stepM]; (repeat' split) <;> first | rfl | contradiction | (exfalso; simp only [digB] at *; omega)
    rw [e]
    clear e
    have hdis : (c < 48) ∨ (57 < c) := by omega
    clear q0 hok
    rcases hdis with z1 | z1
    · skip
      go_enter Tryd.func127, Tryd.ntmps127
      go_wp2_with fail
      refine (HEV.out _ H.out).mono ?_
      rintro e w2 ⟨rfl, h2, g2⟩
      have H2 := Lib.hid h2
      have G2 := Lib.hid ((Gr2.refl B _ S S).trans g2)
      clear h2 g2
      go_wp2
      go_ret
      exact ⟨rfl, H2.out, G2.out⟩
    · skip
      go_enter Tryd.func127, Tryd.ntmps127
      go_wp2_with fail
      refine (HEV.out _ H.out).mono ?_
      rintro e w2 ⟨rfl, h2, g2⟩
      have H2 := Lib.hid h2
      have G2 := Lib.hid ((Gr2.refl B _ S S).trans g2)
      clear h2 g2
      go_wp2
      go_ret
      exact ⟨rfl, H2.out, G2.out⟩
set_option maxRecDepth 100000 in
set_option maxHeartbeats 2000000 in
theorem st_BS (S B : Nat) (s : Cfg) (c : Int) (w : World) (h : ScAt w S B s) (hok : okC s) (hc : 0 ≤ c) :
    Calls Tryd.prog 109 #[.pointer (some ⟨S, 0, none⟩), .int .u8 c] w (StepPost S B (stepM .BS s c) w) := by
  have H := Lib.hid h
  have HE : Hid (∀ m W, ScAt W S B s → m.size ≤ 100 → Calls Tryd.prog 106 #[.pointer (some ⟨S, 0, none⟩), .int .u8 c, .string m] W (StepPost S B (errM s) W)) := Lib.hid fun m W a b => errS S B s c m W a b
  have HEV : Hid (∀ W, ScAt W S B s → Calls Tryd.prog 108 #[.pointer (some ⟨S, 0, none⟩), .int .u8 c] W (StepPost S B (endValM s c) W)) := Lib.hid fun W a => endValS S B s c W a hok.1 (Nat.le_of_lt hok.2)
  have c0 := h.c0
  have f0 := h.fz 0
  have HI := Lib.hid (isSpaceO c)
  clear h
  by_cases hsp : isSp c
  · have e : stepM .BS s c = (s, 9) := by simp only [stepM, bsM]; rw [if_pos hsp]
    rw [e]
    clear e
    have hd : decide (isSp c) = true := decide_eq_true hsp
    rw [hd] at HI
    clear hd hsp hok
    go_enter Tryd.func109, Tryd.ntmps109
    go_wp2_with fail
    refine (HI.out _).mono ?_
    rintro e w1 ⟨rfl, rfl⟩
    go_wp2
    go_ret
    exact ⟨rfl, H.out, Gr2.refl B _ S S⟩
  · have hd : decide (isSp c) = false := decide_eq_false hsp
    rw [hd] at HI
    clear hd
    by_cases q0 : c = 34
    · have e : stepM .BS s c = (s.to .IS, 1) := by simp only [stepM, bsM]; (repeat' split) <;> first | rfl | contradiction | (exfalso; omega)
      rw [e]
      clear e
      subst q0
      go_enter Tryd.func109, Tryd.ntmps109
      go_wp2_with fail
      refine (HI.out _).mono ?_
      rintro e w1 ⟨rfl, rfl⟩
      go_wp2
      go_ret
      exact ⟨rfl, H.out.setQ .IS, gset B S _ _⟩
    · skip
      have e : stepM .BS s c = errM s := by simp only [stepM, bsM]; (repeat' split) <;> first | rfl | contradiction | (exfalso; omega)
      rw [e]
      clear e
      have b34 : (c == 34) = false := by simp; omega
      clear q0 hok hsp
      go_enter Tryd.func109, Tryd.ntmps109
      go_wp2_with fail
      refine (HI.out _).mono ?_
      rintro e w1 ⟨rfl, rfl⟩
      go_wp2_with fail
      refine (HE.out _ _ H.out (by decide)).mono ?_
      rintro e w2 ⟨rfl, h2, g2⟩
      have H2 := Lib.hid h2
      have G2 := Lib.hid g2
      clear h2 g2
      go_wp2
      go_ret
      exact ⟨rfl, H2.out, G2.out⟩
set_option maxRecDepth 100000 in
set_option maxHeartbeats 2000000 in
theorem st_BV (S B : Nat) (s : Cfg) (c : Int) (w : World) (h : ScAt w S B s) (hok : okC s) (hc : 0 ≤ c) :
    Calls Tryd.prog 88 #[.pointer (some ⟨S, 0, none⟩), .int .u8 c] w (StepPost S B (stepM .BV s c) w) := by
  have H := Lib.hid h
  have HE : Hid (∀ m W, ScAt W S B s → m.size ≤ 100 → Calls Tryd.prog 106 #[.pointer (some ⟨S, 0, none⟩), .int .u8 c, .string m] W (StepPost S B (errM s) W)) := Lib.hid fun m W a b => errS S B s c m W a b
  have HEV : Hid (∀ W, ScAt W S B s → Calls Tryd.prog 108 #[.pointer (some ⟨S, 0, none⟩), .int .u8 c] W (StepPost S B (endValM s c) W)) := Lib.hid fun W a => endValS S B s c W a hok.1 (Nat.le_of_lt hok.2)
  have c0 := h.c0
  have f0 := h.fz 0
  have HPU : Hid (∀ x code q W, ScAt W S B (s.to q) → Calls Tryd.prog 97 #[.pointer (some ⟨S, 0, none⟩), .int .u8 c, .int .i64 x, .int .i64 code] W (StepPost S B ({ s with q := q, st := x :: s.st }, code) W)) := Lib.hid fun x code q W a => pushS S B (s.to q) c x code W a hok.2
  have HI := Lib.hid (isSpaceO c)
  clear h
  by_cases hsp : isSp c
  · have e : stepM .BV s c = (s, 9) := by simp only [stepM, bvM]; rw [if_pos hsp]
    rw [e]
    clear e
    have hd : decide (isSp c) = true := decide_eq_true hsp
    rw [hd] at HI
    clear hd hsp hok
    go_enter Tryd.func88, Tryd.ntmps88
    go_wp2_with fail
    refine (HI.out _).mono ?_
    rintro e w1 ⟨rfl, rfl⟩
    go_wp2
    go_ret
    exact ⟨rfl, H.out, Gr2.refl B _ S S⟩
  · have hd : decide (isSp c) = false := decide_eq_false hsp
    rw [hd] at HI
    clear hd
    by_cases q0 : c = 123
    · have e : stepM .BV s c = ({ s with q := .BSE, st := 0 :: s.st }, 2) := by simp only [stepM, bvM]; (repeat' split) <;> first | rfl | contradiction | (exfalso; omega)
      rw [e]
      clear e
      subst q0
      go_enter Tryd.func88, Tryd.ntmps88
      go_wp2_with fail
      refine (HI.out _).mono ?_
      rintro e w1 ⟨rfl, rfl⟩
      go_wp2_with fail
      refine (HPU.out 0 2 .BSE _ (H.out.setQ .BSE)).mono ?_
      rintro e w2 ⟨rfl, h2, g2⟩
      have H2 := Lib.hid h2
      have G2 := Lib.hid ((gset B S _ _).trans g2)
      clear h2 g2
      go_wp2
      go_ret
      exact ⟨rfl, H2.out, G2.out⟩
    · skip
      by_cases q1 : c = 91
      · have e : stepM .BV s c = ({ s with q := .BVE, st := 2 :: s.st }, 6) := by simp only [stepM, bvM]; (repeat' split) <;> first | rfl | contradiction | (exfalso; omega)
        rw [e]
        clear e
        subst q1
        go_enter Tryd.func88, Tryd.ntmps88
        go_wp2_with fail
        refine (HI.out _).mono ?_
        rintro e w1 ⟨rfl, rfl⟩
        go_wp2_with fail
        refine (HPU.out 2 6 .BVE _ (H.out.setQ .BVE)).mono ?_
        rintro e w2 ⟨rfl, h2, g2⟩
        have H2 := Lib.hid h2
        have G2 := Lib.hid ((gset B S _ _).trans g2)
        clear h2 g2
        go_wp2
        go_ret
        exact ⟨rfl, H2.out, G2.out⟩
      · skip
        by_cases q2 : c = 34
        · have e : stepM .BV s c = (s.to .IS, 1) := by simp only [stepM, bvM]; (repeat' split) <;> first | rfl | contradiction | (exfalso; omega)
          rw [e]
          clear e
          subst q2
          go_enter Tryd.func88, Tryd.ntmps88
          go_wp2_with fail
          refine (HI.out _).mono ?_
          rintro e w1 ⟨rfl, rfl⟩
          go_wp2
          go_ret
          exact ⟨rfl, H.out.setQ .IS, gset B S _ _⟩
        · skip
          by_cases q3 : c = 45
          · have e : stepM .BV s c = (s.to .Neg, 1) := by simp only [stepM, bvM]; (repeat' split) <;> first | rfl | contradiction | (exfalso; omega)
            rw [e]
            clear e
            subst q3
            go_enter Tryd.func88, Tryd.ntmps88
            go_wp2_with fail
            refine (HI.out _).mono ?_
            rintro e w1 ⟨rfl, rfl⟩
            go_wp2
            go_ret
            exact ⟨rfl, H.out.setQ .Neg, gset B S _ _⟩
          · skip
            by_cases q4 : c = 48
            · have e : stepM .BV s c = (s.to .S0, 1) := by simp only [stepM, bvM]; (repeat' split) <;> first | rfl | contradiction | (exfalso; omega)
              rw [e]
              clear e
              subst q4
              go_enter Tryd.func88, Tryd.ntmps88
              go_wp2_with fail
              refine (HI.out _).mono ?_
              rintro e w1 ⟨rfl, rfl⟩
              go_wp2
              go_ret
              exact ⟨rfl, H.out.setQ .S0, gset B S _ _⟩
            · skip
              by_cases q5 : c = 116
              · have e : stepM .BV s c = (s.to .T, 1) := by simp only [stepM, bvM]; (repeat' split) <;> first | rfl | contradiction | (exfalso; omega)
                rw [e]
                clear e
                subst q5
                go_enter Tryd.func88, Tryd.ntmps88
                go_wp2_with fail
                refine (HI.out _).mono ?_
                rintro e w1 ⟨rfl, rfl⟩
                go_wp2
                go_ret
                exact ⟨rfl, H.out.setQ .T, gset B S _ _⟩
              · skip
                by_cases q6 : c = 102
                · have e : stepM .BV s c = (s.to .F, 1) := by simp only [stepM, bvM]; (repeat' split) <;> first | rfl | contradiction | (exfalso; omega)
                  rw [e]
                  clear e
                  subst q6
                  go_enter Tryd.func88, Tryd.ntmps88
                  go_wp2_with fail
                  refine (HI.out _).mono ?_
                  rintro e w1 ⟨rfl, rfl⟩
                  go_wp2
                  go_ret
                  exact ⟨rfl, H.out.setQ .F, gset B S _ _⟩
                · skip
                  by_cases q7 : c = 110
                  · have e : stepM .BV s c = (s.to .N, 1) := by simp only [stepM, bvM]; (repeat' split) <;> first | rfl | contradiction | (exfalso; omega)
                    rw [e]
                    clear e
                    subst q7
                    go_enter Tryd.func88, Tryd.ntmps88
                    go_wp2_with fail
                    refine (HI.out _).mono ?_
                    rintro e w1 ⟨rfl, rfl⟩
                    go_wp2
                    go_ret
                    exact ⟨rfl, H.out.setQ .N, gset B S _ _⟩
                  · skip
                    by_cases q8 : 49 ≤ c ∧ c ≤ 57
                    · have e : stepM .BV s c = (s.to .S1, 1) := by simp only [stepM, bvM]; (repeat' split) <;> first | rfl | contradiction | (exfalso; omega)
                      rw [e]
                      clear e
                      obtain ⟨r1, r2⟩ := q8
                      have b123 : (c == 123) = false := by simp; omega
                      have b91 : (c == 91) = false := by simp; omega
                      have b34 : (c == 34) = false := by simp; omega
                      have b45 : (c == 45) = false := by simp; omega
                      have b48 : (c == 48) = false := by simp; omega
                      have b116 : (c == 116) = false := by simp; omega
                      have b102 : (c == 102) = false := by simp; omega
                      have b110 : (c == 110) = false := by simp; omega
                      clear q0 q1 q2 q3 q4 q5 q6 q7 hok hsp
                      go_enter Tryd.func88, Tryd.ntmps88
                      go_wp2_with fail
                      refine (HI.out _).mono ?_
                      rintro e w1 ⟨rfl, rfl⟩
                      go_wp2
                      go_ret
                      exact ⟨rfl, H.out.setQ .S1, gset B S _ _⟩
                    · skip
                      have e : stepM .BV s c = errM s := by simp only [stepM, bvM]; (repeat' split) <;> first | rfl | contradiction | (exfalso; omega)
                      rw [e]
                      clear e
                      have b123 : (c == 123) = false := by simp; omega
                      have b91 : (c == 91) = false := by simp; omega
                      have b34 : (c == 34) = false := by simp; omega
                      have b45 : (c == 45) = false := by simp; omega
                      have b48 : (c == 48) = false := by simp; omega
                      have b116 : (c == 116) = false := by simp; omega
                      have b102 : (c == 102) = false := by simp; omega
                      have b110 : (c == 110) = false := by simp; omega
                      have hdis : (c < 49) ∨ (57 < c) := by omega
                      clear q0 q1 q2 q3 q4 q5 q6 q7 q8 hok hsp
                      rcases hdis with z1 | z1
                      · skip
                        go_enter Tryd.func88, Tryd.ntmps88
                        go_wp2_with fail
                        refine (HI.out _).mono ?_
                        rintro e w1 ⟨rfl, rfl⟩
                        go_wp2_with fail
                        refine (HE.out _ _ H.out (by decide)).mono ?_
                        rintro e w2 ⟨rfl, h2, g2⟩
                        have H2 := Lib.hid h2
                        have G2 := Lib.hid g2
                        clear h2 g2
                        go_wp2
                        go_ret
                        exact ⟨rfl, H2.out, G2.out⟩
                      · skip
                        go_enter Tryd.func88, Tryd.ntmps88
                        go_wp2_with fail
                        refine (HI.out _).mono ?_
                        rintro e w1 ⟨rfl, rfl⟩
                        go_wp2_with fail
                        refine (HE.out _ _ H.out (by decide)).mono ?_
                        rintro e w2 ⟨rfl, h2, g2⟩
                        have H2 := Lib.hid h2
                        have G2 := Lib.hid g2
                        clear h2 g2
                        go_wp2
                        go_ret
                        exact ⟨rfl, H2.out, G2.out⟩
set_option maxRecDepth 100000 in
set_option maxHeartbeats 2000000 in
theorem st_BVE (S B : Nat) (s : Cfg) (c : Int) (w : World) (h : ScAt w S B s) (hok : okC s) (hc : 0 ≤ c) :
    Calls Tryd.prog 98 #[.pointer (some ⟨S, 0, none⟩), .int .u8 c] w (StepPost S B (stepM .BVE s c) w) := by
  have H := Lib.hid h
  have HE : Hid (∀ m W, ScAt W S B s → m.size ≤ 100 → Calls Tryd.prog 106 #[.pointer (some ⟨S, 0, none⟩), .int .u8 c, .string m] W (StepPost S B (errM s) W)) := Lib.hid fun m W a b => errS S B s c m W a b
  have HEV : Hid (∀ W, ScAt W S B s → Calls Tryd.prog 108 #[.pointer (some ⟨S, 0, none⟩), .int .u8 c] W (StepPost S B (endValM s c) W)) := Lib.hid fun W a => endValS S B s c W a hok.1 (Nat.le_of_lt hok.2)
  have c0 := h.c0
  have f0 := h.fz 0
  have HBV : Hid (∀ W, ScAt W S B s → Calls Tryd.prog 88 #[.pointer (some ⟨S, 0, none⟩), .int .u8 c] W (StepPost S B (stepM .BV s c) W)) := Lib.hid fun W a => st_BV S B s c W a hok hc
  have HI := Lib.hid (isSpaceO c)
  clear h
  by_cases hsp : isSp c
  · have e : stepM .BVE s c = (s, 9) := by simp only [stepM, bveM]; rw [if_pos hsp]
    rw [e]
    clear e
    have hd : decide (isSp c) = true := decide_eq_true hsp
    rw [hd] at HI
    clear hd hsp hok
    go_enter Tryd.func98, Tryd.ntmps98
    go_wp2_with fail
    refine (HI.out _).mono ?_
    rintro e w1 ⟨rfl, rfl⟩
    go_wp2
    go_ret
    exact ⟨rfl, H.out, Gr2.refl B _ S S⟩
  · have hd : decide (isSp c) = false := decide_eq_false hsp
    rw [hd] at HI
    clear hd
    by_cases q0 : c = 93
    · have e : stepM .BVE s c = endValM s c := by simp only [stepM, bveM]; (repeat' split) <;> first | rfl | contradiction | (exfalso; omega)
      rw [e]
      clear e
      subst q0
      go_enter Tryd.func98, Tryd.ntmps98
      go_wp2_with fail
      refine (HI.out _).mono ?_
      rintro e w1 ⟨rfl, rfl⟩
      go_wp2_with fail
      refine (HEV.out _ H.out).mono ?_
      rintro e w2 ⟨rfl, h2, g2⟩
      have H2 := Lib.hid h2
      have G2 := Lib.hid ((Gr2.refl B _ S S).trans g2)
      clear h2 g2
      go_wp2
      go_ret
      exact ⟨rfl, H2.out, G2.out⟩
    · skip
      have e : stepM .BVE s c = stepM .BV s c := by simp only [stepM, bveM]; (repeat' split) <;> first | rfl | contradiction | (exfalso; omega)
      rw [e]
      clear e
      have b93 : (c == 93) = false := by simp; omega
      clear q0 hok hsp
      go_enter Tryd.func98, Tryd.ntmps98
      go_wp2_with fail
      refine (HI.out _).mono ?_
      rintro e w1 ⟨rfl, rfl⟩
      go_wp2_with fail
      refine (HBV.out _ H.out).mono ?_
      rintro e w2 ⟨rfl, h2, g2⟩
      have H2 := Lib.hid h2
      have G2 := Lib.hid ((Gr2.refl B _ S S).trans g2)
      clear h2 g2
      go_wp2
      go_ret
      exact ⟨rfl, H2.out, G2.out⟩
set_option maxRecDepth 100000 in
set_option maxHeartbeats 2000000 in
theorem st_BSE (S B : Nat) (s : Cfg) (c : Int) (w : World) (h : ScAt w S B s) (hok : okC s) (hc : 0 ≤ c) (hne : ¬ s.st = []) :
    Calls Tryd.prog 96 #[.pointer (some ⟨S, 0, none⟩), .int .u8 c] w (StepPost S B (stepM .BSE s c) w) := by
  have H := Lib.hid h
  have HE : Hid (∀ m W, ScAt W S B s → m.size ≤ 100 → Calls Tryd.prog 106 #[.pointer (some ⟨S, 0, none⟩), .int .u8 c, .string m] W (StepPost S B (errM s) W)) := Lib.hid fun m W a b => errS S B s c m W a b
  have HEV : Hid (∀ W, ScAt W S B s → Calls Tryd.prog 108 #[.pointer (some ⟨S, 0, none⟩), .int .u8 c] W (StepPost S B (endValM s c) W)) := Lib.hid fun W a => endValS S B s c W a hok.1 (Nat.le_of_lt hok.2)
  have c0 := h.c0
  have f0 := h.fz 0
  have HBS : Hid (∀ W, ScAt W S B s → Calls Tryd.prog 109 #[.pointer (some ⟨S, 0, none⟩), .int .u8 c] W (StepPost S B (stepM .BS s c) W)) := Lib.hid fun W a => st_BS S B s c W a hok hc
  obtain ⟨p, r, hs2⟩ : ∃ p r, s.st = p :: r := by
    cases e : s.st with
    | nil => exact absurd e hne
    | cons p r => exact ⟨p, r, rfl⟩
  obtain ⟨g, cap, c2, hcap, ct, cf, hBg, _⟩ := h.stack p r hs2
  have HROW := Lib.hid (h.setRow p 1 r hs2 c2)
  have GROW : Hid (Gr2 B w (w.setCell ⟨g, r.length, none⟩ (.int .i64 1)) S S) := Lib.hid ((Gr2.refl B w S S).set _ (q := ⟨g, r.length, none⟩) (.inr (.inr ⟨hBg, fun e => h.dr _ c2 (congrArg some e.symm)⟩)))
  have HEV2 : Hid (∀ W, ScAt W S B { s with st := 1 :: r } → Calls Tryd.prog 108 #[.pointer (some ⟨S, 0, none⟩), .int .u8 c] W (StepPost S B (endValM { s with st := 1 :: r } c) W)) := Lib.hid fun W a => endValS S B _ c W a (fun x hx => by
    rcases List.mem_cons.1 hx with rfl | hx
    · exact .inr (.inl rfl)
    · exact hok.1 x (by rw [hs2]; exact List.mem_cons_of_mem _ hx)) (by have := hok.2; rw [hs2] at this; exact Nat.le_of_lt this)
  have htl : s.st.tail = r := by rw [hs2]; rfl
  have hgS : ¬ g = S := by have := h.lt; omega
  have hSg : ¬ S = g := fun e => hgS e.symm
  have hl := hok.2
  rw [hs2, List.length_cons] at hl
  generalize hn : r.length = n at *
  have hn0 : (0 : Int) ≤ (n : Int) := by omega
  have hn1 : (n : Int) < (n : Int) + 1 := by omega
  have HI := Lib.hid (isSpaceO c)
  clear h HEV
  by_cases hsp : isSp c
  · have e : stepM .BSE s c = (s, 9) := by simp only [stepM, bseM]; rw [if_pos hsp]
    rw [e]
    clear e
    have hd : decide (isSp c) = true := decide_eq_true hsp
    rw [hd] at HI
    clear hd hsp hok
    go_enter Tryd.func96, Tryd.ntmps96
    go_wp2_with fail
    refine (HI.out _).mono ?_
    rintro e w1 ⟨rfl, rfl⟩
    go_wp2
    go_ret
    exact ⟨rfl, H.out, Gr2.refl B _ S S⟩
  · have hd : decide (isSp c) = false := decide_eq_false hsp
    rw [hd] at HI
    clear hd
    by_cases q0 : c = 125
    · have e : stepM .BSE s c = endValM { s with st := 1 :: r } c := by simp only [stepM, bseM]; rw [if_neg hsp, if_pos q0, htl]
      rw [e]
      clear e hsp hok
      subst q0
      go_enter Tryd.func96, Tryd.ntmps96
      go_wp2_with fail
      refine (HI.out _).mono ?_
      rintro e w1 ⟨rfl, rfl⟩
      go_wp2_with fail
      refine (HEV2.out _ HROW.out).mono ?_
      rintro e w2 ⟨rfl, h2, g2⟩
      have H2 := Lib.hid h2
      have G2 := Lib.hid ((GROW.out).trans g2)
      clear h2 g2
      go_wp2
      go_ret
      exact ⟨rfl, H2.out, G2.out⟩
    · have e : stepM .BSE s c = stepM .BS s c := by simp only [stepM, bseM]; rw [if_neg hsp, if_neg q0]
      rw [e]
      have b125 : (c == 125) = false := by simpa using q0
      clear e hsp hok q0
      go_enter Tryd.func96, Tryd.ntmps96
      go_wp2_with fail
      refine (HI.out _).mono ?_
      rintro e w1 ⟨rfl, rfl⟩
      go_wp2_with fail
      refine (HBS.out _ H.out).mono ?_
      rintro e w2 ⟨rfl, h2, g2⟩
      have H2 := Lib.hid h2
      have G2 := Lib.hid ((Gr2.refl B _ S S).trans g2)
      clear h2 g2
      go_wp2
      go_ret
      exact ⟨rfl, H2.out, G2.out⟩
theorem st_Err (S B : Nat) (s : Cfg) (c : Int) (w : World) (h : ScAt w S B s) :
    Calls Tryd.prog 116 #[.pointer (some ⟨S, 0, none⟩), .int .u8 c] w (StepPost S B (stepM .Err s c) w) := by
  have H := Lib.hid h
  clear h
  go_enter Tryd.func116, Tryd.ntmps116
  go_wp2
  go_ret
  exact ⟨rfl, H.out, Gr2.refl B _ S S⟩
/-- One step, whichever state it is. -/
theorem stepS (g : Q) (S B : Nat) (s : Cfg) (c : Int) (w : World) (h : ScAt w S B s) (hok : okC s) (hc : 0 ≤ c) (hne : g = .BSE → ¬ s.st = []) :
    Calls Tryd.prog (fid g) #[.pointer (some ⟨S, 0, none⟩), .int .u8 c] w (StepPost S B (stepM g s c) w) := by
  cases g
  · exact st_BV S B s c w h hok hc
  · exact st_BVE S B s c w h hok hc
  · exact st_BSE S B s c w h hok hc (hne rfl)
  · exact st_BS S B s c w h hok hc
  · exact endValS S B s c w h hok.1 (Nat.le_of_lt hok.2)
  · exact endTopS S B s c w h
  · exact st_IS S B s c w h hok hc
  · exact st_ISE S B s c w h hok hc
  · exact st_U S B s c w h hok hc
  · exact st_U1 S B s c w h hok hc
  · exact st_U12 S B s c w h hok hc
  · exact st_U123 S B s c w h hok hc
  · exact st_Neg S B s c w h hok hc
  · exact st_S1 S B s c w h hok hc
  · exact st_S0 S B s c w h hok hc
  · exact st_Dot S B s c w h hok hc
  · exact st_Dot0 S B s c w h hok hc
  · exact st_E S B s c w h hok hc
  · exact st_ESign S B s c w h hok hc
  · exact st_E0 S B s c w h hok hc
  · exact st_T S B s c w h hok hc
  · exact st_Tr S B s c w h hok hc
  · exact st_Tru S B s c w h hok hc
  · exact st_F S B s c w h hok hc
  · exact st_Fa S B s c w h hok hc
  · exact st_Fal S B s c w h hok hc
  · exact st_Fals S B s c w h hok hc
  · exact st_N S B s c w h hok hc
  · exact st_Nu S B s c w h hok hc
  · exact st_Nul S B s c w h hok hc
  · exact st_Err S B s c w h
end Go.Proofs.YtklncgmfbflooaaDoor.Kp
