/- jsonscan.getu4, walked; a row of bytes that is written from its beginning on; EncodeRune into it. -/
import Derived.Test.YtklncgmfbflooaaDoorEncRune
import Derived.Test.YtklncgmfbflooaaDoorUtf16
import Derived.Test.YtklncgmfbflooaaDoorUInv
import Derived.Test.YtklncgmfbflooaaDoorWidth
namespace Go.Proofs.YtklncgmfbflooaaDoor
open Go.RowKit
theorem getu4_short (a : Option Addr) (n cap : Nat) (w : World) (h : n < 6) :
    Calls Tryd.prog 84 #[.slice a n cap] w fun e w' => e = .returned (.int .i32 (-1)) ∧ w' = w := by
  go_enter Tryd.func84, Tryd.ntmps84
  go_wp2
  go_ret
  exact ⟨rfl, rfl⟩
set_option maxRecDepth 100000 in
set_option maxHeartbeats 4000000 in
theorem getu4_long (l : List UInt8) (g o cap : Nat) (w : World) (hb : BytesAt w g o l) (h : 6 ≤ l.length) (hc : l.length ≤ cap) (hm : l.length ≤ 140737488355328) :
    Calls Tryd.prog 84 #[.slice (some ⟨g, o, none⟩) l.length cap] w fun e w' => e = .returned (.int .i32 (uV l)) ∧ w' = w := by
  have c0 := hb 0 (by omega)
  have c1 := hb 1 (by omega)
  rw [Nat.add_zero] at c0
  have hu : uV l = if 6 ≤ l.length ∧ atL l 0 = 92 ∧ atL l 1 = 117 ∧ hexOk l then hexV l else -1 := rfl
  by_cases c92 : atL l 0 = 92
  · by_cases c117 : atL l 1 = 117
    · have hgo : Hid (∀ j, j < 4 → ¬ 0 ≤ hx (atL l (2 + j)) → uV l = -1) := Lib.hid fun j hj hn => by
        rw [hu, if_neg]
        rintro ⟨_, _, _, q⟩
        exact hn ((pre_hexOk l).2 q j hj)
      have hfin : Hid (preOk l 4 → uV l = preV l 4) := Lib.hid fun q => by
        rw [hu, if_pos ⟨h, c92, c117, (pre_hexOk l).1 q⟩, pre_hexV]
      have HB : Hid (∀ j, j < 4 → w.cell? ⟨g, o + 2 + j, none⟩ = some (.int .u8 (atL l (2 + j)))) := Lib.hid fun j hj => by
        have := hb (2 + j) (by omega)
        rw [show o + 2 + j = o + (2 + j) by omega]; exact this
      rw [c92] at c0
      rw [c117] at c1
      clear hu c92 c117 hb
      generalize uV l = u at hgo hfin ⊢
      generalize l.length = n at *
      go_enter Tryd.func84, Tryd.ntmps84
      go_wp2
      go_loop [3, 24] (fun r i => ∃ j : Nat, j ≤ 4 ∧ r = .int .i32 (preV l j) ∧ i = .int .i64 j ∧ Hid (preOk l j)) (fun _ i => 4 - (intOf i).toNat)
      case atStart => exact ⟨0, by omega, rfl, rfl, Lib.hid fun i hi => absurd hi (by omega)⟩
      case round =>
        obtain ⟨j, hj, rfl, rfl, hP⟩ := hrel
        have hr := preV_range l j hP.out hj
        by_cases hj4 : j < 4
        · have hcj := HB.out j hj4
          have hra := atL_range l (2 + j)
          have h3 := hr.2.2 (by omega)
          have hr1 := hr.1
          have HV := Lib.hid (preV_succ l j)
          have HG := Lib.hid (hgo.out j hj4)
          have HS : Hid (0 ≤ hx (atL l (2 + j)) → preOk l (j + 1)) := Lib.hid fun q i hi => by
            by_cases e : i = j
            · subst e; exact q
            · exact hP.out i (by omega)
          have hxe : hx (atL l (2 + j)) = if 48 ≤ atL l (2 + j) ∧ atL l (2 + j) ≤ 57 then atL l (2 + j) - 48 else if 97 ≤ atL l (2 + j) ∧ atL l (2 + j) ≤ 102 then atL l (2 + j) - 87 else if 65 ≤ atL l (2 + j) ∧ atL l (2 + j) ≤ 70 then atL l (2 + j) - 55 else -1 := rfl
          clear hr hgo
          generalize preV l j = p at *
          generalize hx (atL l (2 + j)) = x at *
          generalize atL l (2 + j) = c at *
          by_cases a : 48 ≤ c ∧ c ≤ 57
          · rw [if_pos a] at hxe
            have HR : Hid (preV l (j + 1) = 16 * p + (c - 48)) := Lib.hid (by rw [HV.out, hxe])
            have HO := Lib.hid (HS.out (by omega))
            obtain ⟨a1, a2⟩ := a
            clear HV HS HG hxe
            go_wp2
            go_round
            case rel => exact ⟨j + 1, by omega, by rw [HR.out]; go_num, by go_num, HO⟩
            case measure => simp [intOf]; omega
          · rw [if_neg a] at hxe
            by_cases b : 97 ≤ c ∧ c ≤ 102
            · rw [if_pos b] at hxe
              have HR : Hid (preV l (j + 1) = 16 * p + (c - 87)) := Lib.hid (by rw [HV.out, hxe])
              have HO := Lib.hid (HS.out (by omega))
              obtain ⟨a1, a2⟩ := b
              have a' : 57 < c := by omega
              clear HV HS HG hxe a
              go_wp2
              go_round
              case rel => exact ⟨j + 1, by omega, by rw [HR.out]; go_num, by go_num, HO⟩
              case measure => simp [intOf]; omega
            · rw [if_neg b] at hxe
              by_cases d : 65 ≤ c ∧ c ≤ 70
              · rw [if_pos d] at hxe
                have HR : Hid (preV l (j + 1) = 16 * p + (c - 55)) := Lib.hid (by rw [HV.out, hxe])
                have HO := Lib.hid (HS.out (by omega))
                obtain ⟨a1, a2⟩ := d
                have a' : 57 < c := by omega
                have b' : c < 97 := by omega
                clear HV HS HG hxe a b
                go_wp2
                go_round
                case rel => exact ⟨j + 1, by omega, by rw [HR.out]; go_num, by go_num, HO⟩
                case measure => simp [intOf]; omega
              · rw [if_neg d] at hxe
                have HO := Lib.hid (HG.out (by omega))
                have hcases : c < 48 ∨ (57 < c ∧ c < 65) ∨ (70 < c ∧ c < 97) ∨ 102 < c := by omega
                clear HV HS HG hxe a b d
                rcases hcases with q | ⟨q1, q2⟩ | ⟨q1, q2⟩ | q
                all_goals (
                  go_wp2
                  go_ret
                  exact ⟨congrArg (fun z => Ending.returned (.int .i32 z)) HO.out.symm, rfl⟩)
        · obtain rfl : j = 4 := by omega
          have HO := Lib.hid (hfin.out hP.out)
          go_wp2
          go_ret
          exact ⟨congrArg (fun z => Ending.returned (.int .i32 z)) HO.out.symm, rfl⟩
    · have hu' : uV l = -1 := by rw [hu, if_neg]; rintro ⟨_, _, q, _⟩; exact c117 q
      have h1' : (atL l 1 != 117) = true := by simpa using c117
      rw [hu']
      rw [c92] at c0
      clear hu c92 c117 hb hu'
      generalize atL l 1 = x at *
      generalize l.length = n at *
      go_enter Tryd.func84, Tryd.ntmps84
      go_wp2
      go_ret
      exact ⟨rfl, rfl⟩
  · have hu' : uV l = -1 := by rw [hu, if_neg]; rintro ⟨_, q, _, _⟩; exact c92 q
    have h0' : (atL l 0 != 92) = true := by simpa using c92
    rw [hu']
    clear hu c92 hb hu' c1
    generalize atL l 0 = x at *
    generalize l.length = n at *
    go_enter Tryd.func84, Tryd.ntmps84
    go_wp2
    go_ret
    exact ⟨rfl, rfl⟩
/-- A row of L bytes of which the first ones are written. -/
structure PBuf (w : World) (gb L : Nat) (out : List UInt8) : Prop where
  some : ∀ j, j < L → (w.cell? ⟨gb, j, none⟩).isSome = true
  fz : ∀ j, w.frozen? ⟨gb, j, none⟩ = false
  by' : BytesAt w gb 0 out
  le : out.length ≤ L
  lt : gb < w.heap.size
theorem PBuf.kept {w w' : World} {gb L : Nat} {out : List UInt8} (h : PBuf w gb L out) (hb : w'.heap[gb]? = w.heap[gb]?) (hs : w.heap.size ≤ w'.heap.size) : PBuf w' gb L out :=
  ⟨fun j hj => by rw [World.cell?_of_block (a := ⟨gb, j, none⟩) hb]; exact h.some j hj, fun j => (World.frozen?_of_block (a := ⟨gb, j, none⟩) hb).trans (h.fz j), fun j hj => (World.cell?_of_block (a := ⟨gb, 0 + j, none⟩) hb).trans (h.by' j hj), h.le, Nat.lt_of_lt_of_le h.lt hs⟩
theorem PBuf.below {w w' : World} {gb L : Nat} {out : List UInt8} (h : PBuf w gb L out) (hb : Below w.heap.size w w') : PBuf w' gb L out := h.kept (hb.block gb h.lt) hb.size
theorem sets_size (b : Nat) : ∀ (vs : List Value) (o : Nat) (w : World), (w.setCells b o vs).heap.size = w.heap.size
  | [], _, _ => rfl
  | v :: r, o, w => by rw [World.setCells, sets_size b r]; simp
theorem sets_some (b : Nat) : ∀ (vs : List Value) (o : Nat) (w : World) (x : Addr), (w.cell? x).isSome = true → ((w.setCells b o vs).cell? x).isSome = true
  | [], _, _, _, h => h
  | v :: r, o, w, x, h => by
    rw [World.setCells]
    refine sets_some b r _ _ x ?_
    by_cases e : x = ⟨b, o, none⟩
    · subst e; rw [World.cell?_setCell_same' _ _ _ h]; rfl
    · rw [World.cell?_setCell_other w ⟨b, o, none⟩ x v (fun q => e q.symm)]; exact h
theorem sets_below {B b : Nat} {a : World} (hb : B ≤ b) : ∀ (vs : List Value) (o : Nat) (w : World), Below B a w → Below B a (w.setCells b o vs)
  | [], _, _, h => h
  | v :: r, o, w, h => by
    rw [World.setCells]
    exact sets_below hb r _ _ (Below.setCell (p := ⟨b, o, none⟩) h hb _)
theorem PBuf.puts {w : World} {gb L : Nat} {out : List UInt8} (h : PBuf w gb L out) (E : List UInt8) (hE : out.length + E.length ≤ L) : PBuf (w.setCells gb out.length (nums E)) gb L (out ++ E) := by
  have hin : ∀ j, j < (nums E).length → (w.cell? ⟨gb, out.length + j, none⟩).isSome = true := fun j hj => h.some _ (by rw [nums_length] at hj; omega)
  refine ⟨fun j hj => sets_some gb _ _ _ _ (h.some j hj), fun j => by rw [World.frozen?_setCells]; exact h.fz j, fun j hj => ?_, by rw [List.length_append]; omega, by rw [sets_size]; exact h.lt⟩
  rw [List.length_append] at hj
  rw [Nat.zero_add]
  by_cases q : j < out.length
  · rw [atL_app_left _ _ _ q, World.cell?_setCells_out gb _ _ _ _ (fun _ _ => .inl q)]
    have := h.by' j q
    rw [Nat.zero_add] at this; exact this
  · rw [atL_app_right _ _ _ (by omega)]
    have hj2 : j - out.length < (nums E).length := by rw [nums_length]; omega
    have := World.cell?_setCells_in gb (nums E) out.length w hin (j - out.length) hj2
    rw [show out.length + (j - out.length) = j by omega] at this
    rw [this]
    have e := nums_get E (j - out.length) (by rw [nums_length] at hj2; exact hj2)
    rw [List.getElem?_eq_getElem hj2] at e
    exact e
theorem PBuf.put {w : World} {gb L : Nat} {out : List UInt8} (h : PBuf w gb L out) (x : UInt8) (hE : out.length + 1 ≤ L) : PBuf (w.setCell ⟨gb, out.length, none⟩ (.int .u8 x.toNat)) gb L (out ++ [x]) := h.puts [x] hE
theorem below_sets {w w0 : World} {gb : Nat} {B : Nat} (hb : Below B w0 w) (hB : B ≤ gb) (o : Nat) (vs : List Value) : Below B w0 (w.setCells gb o vs) := sets_below hB vs o w hb
def EncPost (w1 : World) (n : Nat) (e : Ending) (w' : World) : Prop := e = .returned (.int .i64 n) ∧ w' = w1
theorem encRune (r : Int) (h0 : -2147483648 ≤ r) (h1 : r ≤ 2147483647) (gb L : Nat) (out : List UInt8) (w : World) (h : PBuf w gb L out) (hr : out.length + 4 ≤ L) :
    Calls Tryd.prog 87 #[.slice (some ⟨gb, out.length, none⟩) (L - out.length) (L - out.length), .int .i32 r] w (EncPost (w.setCells gb out.length (nums (Lib.encodeRune r))) (Lib.encodeRune r).length) := by
  have hl := enc_length r
  have hlc : (Lib.runeCells r).length = (Lib.encodeRune r).length := Lib.runeCells_length r
  have := Any7.utf8_EncodeRune laysEnc gb out.length (L - out.length) (L - out.length) r h0 h1 w (by omega) (fun j hj => h.some _ (by omega)) (fun j _ => h.fz _)
  rw [hlc, ← nums_enc] at this
  exact this
end Go.Proofs.YtklncgmfbflooaaDoor
