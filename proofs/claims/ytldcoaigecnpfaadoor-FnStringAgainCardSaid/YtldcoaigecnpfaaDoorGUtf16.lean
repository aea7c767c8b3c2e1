/- unicode/utf16.IsSurrogate and DecodeRune, walked. unicode/utf8.DecodeRune, by the contract of the library's shelf, laid at this program. What jsonwire.AppendUnquote calls: parseHexUint16, hasEscapedUTF16Prefix where it tells no, NewInvalidEscapeSequenceError, its test of plain bytes: walked. -/
import Derived.Test.YtldcoaigecnpfaaDoorGEncoded
import Derived.Test.YtldcoaigecnpfaaDoorGClose
import Derived.Test.YtldcoaigecnpfaaDoorGBytes
import Derived.Test.YtldcoaigecnpfaaDoorProg
import Derived.Shelf.Spec.DecodeRune
import Derived.KernelRfl
import Derived.Deep.RegionWith
namespace Go.Proofs.YtldcoaigecnpfaaDoor
open Go.RowKit
theorem isSurr (r : Int) (b : Bool) (hb : b = decide (halfU r)) (w : World) : Calls Tryd.prog 73 #[.int .i32 r] w fun e w' => e = .returned (.bool b) ∧ w' = w := by
  have hB : Hid (b = decide (55296 ≤ r ∧ r ≤ 57343)) := Lib.hid hb
  clear hb
  by_cases h1 : 55296 ≤ r
  · by_cases h2 : r ≤ 57343
    · have h2' : r < 57344 := by omega
      have e : b = true := by rw [hB.out]; simp; omega
      subst e
      go_enter Tryd.func73, Tryd.ntmps73
      go_wp2
      go_ret
      exact ⟨rfl, rfl⟩
    · have h2' : 57344 ≤ r := by omega
      have e : b = false := by rw [hB.out]; simp; omega
      subst e
      go_enter Tryd.func73, Tryd.ntmps73
      go_wp2
      go_ret
      exact ⟨ret_bool (by simp; omega), rfl⟩
  · have e : b = false := by rw [hB.out]; simp; omega
    subst e
    go_enter Tryd.func73, Tryd.ntmps73
    go_wp2
    go_ret
    exact ⟨rfl, rfl⟩
theorem i32_join (x y : Int) (h0 : 0 ≤ x) (h1 : x < 1048576) (hm : x % 1024 = 0) (h2 : 0 ≤ y) (h3 : y < 1024) : bits BinOp.or IntKind.i32 x y = x + y :=
  bits_join .i32 20 (by decide) (by intro n h0 h1; rw [IntKind.wrap_i32]; omega) 10 x y h0 hm h1 h2 h3 (by omega)
set_option maxHeartbeats 1000000 in
/-- What two halves give; no pair of them gives U+FFFD. -/
theorem decRune16 (c d : Int) (hc : 0 ≤ c ∧ c ≤ 65535) (hd : -1 ≤ d ∧ d ≤ 65535) (w : World) : Calls Tryd.prog 75 #[.int .i32 c, .int .i32 d] w fun e w' => e = .returned (.int .i32 (if pairOk c d then pairV c d else 65533)) ∧ w' = w := by
  by_cases hp : pairOk c d
  · rw [if_pos hp]
    obtain ⟨p1, p2, p3, p4⟩ := hp
    have hj := i32_join ((c - 55296) * 1024) (d - 56320) (by omega) (by omega) (by omega) (by omega) (by omega)
    have hv : Hid ((c - 55296) * 1024 + (d - 56320) + 65536 = pairV c d) := Lib.hid (by unfold pairV; omega)
    generalize pairV c d = z at hv ⊢
    have p4' : d < 57344 := by omega
    go_enter Tryd.func75, Tryd.ntmps75
    go_wp2
    go_ret
    exact ⟨congrArg (fun x => Ending.returned (.int .i32 x)) hv.out, rfl⟩
  · rw [if_neg hp]
    have hn : c < 55296 ∨ 56320 ≤ c ∨ d < 56320 ∨ 57344 ≤ d := by unfold pairOk at hp; omega
    clear hp
    rcases hn with q | q | q | q
    all_goals (
      go_enter Tryd.func75, Tryd.ntmps75
      go_wp2
      all_goals (
        go_ret
        exact ⟨rfl, rfl⟩))
end Go.Proofs.YtldcoaigecnpfaaDoor
namespace Go.Proofs.YtldcoaigecnpfaaDoor
open Go.RowKit
def renDec : Go.Shelf.Ren := ⟨fun | 32 => 37 | 49 => 61 | n => n, fun | 30 => 23 | 21 => 21 | 3 => 3 | 0 => 0 | 5 => 5 | 4 => 4 | 33 => 71 | 66 => 124 | 25 => 69 | 69 => 127 | 68 => 126 | n => n, fun | 2 => 3 | 3 => 4 | n => n⟩
theorem laysDec : Go.Proofs.Lays7.n32 Tryd.prog renDec :=
  { mixed := by kernel_rfl,
    f32 := Tryd.func37.trans (congrArg some (by kernel_rfl)),
    f49 := Tryd.func61.trans (congrArg some (by kernel_rfl)),
    t0 := Tryd.underlying0,
    a0 := Tryd.isAgg0,
    z0 := Tryd.sizeOf0,
    v0 := Tryd.zeroValue0,
    i0 := by kernel_rfl,
    t3 := Tryd.underlying3,
    a3 := Tryd.isAgg3,
    z3 := Tryd.sizeOf3,
    v3 := Tryd.zeroValue3,
    i3 := by kernel_rfl,
    t4 := Tryd.underlying4,
    a4 := Tryd.isAgg4,
    z4 := Tryd.sizeOf4,
    v4 := Tryd.zeroValue4,
    i4 := by kernel_rfl,
    t5 := Tryd.underlying5,
    a5 := Tryd.isAgg5,
    z5 := Tryd.sizeOf5,
    v5 := Tryd.zeroValue5,
    i5 := by kernel_rfl,
    t21 := Tryd.underlying21,
    a21 := Tryd.isAgg21,
    z21 := Tryd.sizeOf21,
    v21 := Tryd.zeroValue21,
    i21 := by kernel_rfl,
    t25 := Tryd.underlying69,
    a25 := Tryd.isAgg69,
    z25 := Tryd.sizeOf69,
    v25 := Tryd.zeroValue69,
    i25 := by kernel_rfl,
    t30 := Tryd.underlying23,
    a30 := Tryd.isAgg23,
    z30 := Tryd.sizeOf23,
    v30 := Tryd.zeroValue23,
    i30 := by kernel_rfl,
    t33 := Tryd.underlying71,
    a33 := Tryd.isAgg71,
    z33 := Tryd.sizeOf71,
    v33 := Tryd.zeroValue71,
    i33 := by kernel_rfl,
    t66 := Tryd.underlying124,
    a66 := Tryd.isAgg124,
    z66 := Tryd.sizeOf124,
    t68 := Tryd.underlying126,
    a68 := Tryd.isAgg126,
    z68 := Tryd.sizeOf126,
    v68 := Tryd.zeroValue126,
    i68 := by kernel_rfl,
    t69 := Tryd.underlying127,
    a69 := Tryd.isAgg127,
    z69 := Tryd.sizeOf127,
    v69 := Tryd.zeroValue127,
    i69 := by kernel_rfl,
    g2 := by kernel_rfl,
    g3 := by kernel_rfl }
theorem list_get (l : List UInt8) (j : Nat) : ((⟨l.toArray⟩ : ByteArray).get! j).toNat = natL l j := by
  unfold natL
  show ((l.toArray)[j]!).toNat = _
  rw [List.getD_eq_getElem?_getD]
  by_cases h : j < l.length
  · simp [h]
  · have e1 : l[j]? = none := List.getElem?_eq_none (by omega)
    have e2 : l.toArray[j]! = default := by rw [Array.getElem!_eq_getD]; unfold Array.getD; rw [dif_neg (by simpa using h)]
    rw [e1, e2]; rfl
/-- The contract, over a list of bytes. -/
theorem decodeRune (l : List UInt8) (b off cap : Nat) (w : World) (hT : Lib.Utf8Tabs 3 4 w) (hp : BytesAt w b off l) (hl : 0 < l.length) :
    Calls Tryd.prog 37 #[.slice (some ⟨b, off, none⟩) l.length cap] w fun e w' => e = .returned (.tuple #[.int .i32 (decN l).1, .int .i64 (decN l).2]) ∧ Below w.heap.size w w' := by
  have h := Any7.utf8_DecodeRune laysDec ⟨l.toArray⟩ b off cap w hT (fun j hj => by
    have hj' : j < l.length := by simpa [ByteArray.size] using hj
    rw [list_get]; exact hp j hj')
  have hs : (⟨l.toArray⟩ : ByteArray).size = l.length := by simp [ByteArray.size]
  have hd : Lib.decodeGo ⟨l.toArray⟩ = decN l := by
    unfold Lib.decodeGo decN
    rw [hs, if_neg (by omega), Lib.decode_at, hs, list_get, list_get, list_get, list_get]
    rfl
  rw [hs, hd] at h
  exact h
end Go.Proofs.YtldcoaigecnpfaaDoor
namespace Go.Proofs.YtldcoaigecnpfaaDoor
open Go.RowKit
def HexPost16 (l : List UInt8) (w : World) (e : Ending) (w' : World) : Prop := ((hexOk l ∧ e = .returned (.tuple #[.int .u16 (hexV l), .bool true])) ∨ (¬ hexOk l ∧ e = .returned (.tuple #[.int .u16 0, .bool false]))) ∧ w' = w
set_option maxRecDepth 100000 in
set_option maxHeartbeats 4000000 in
theorem parseHex (l : List UInt8) (g o cap : Nat) (w : World) (hb : ∀ j, j < 4 → w.cell? ⟨g, o + j, none⟩ = some (.int .u8 (atL l (2 + j)))) :
    Calls Tryd.prog 72 #[.slice (some ⟨g, o, none⟩) 4 cap] w (HexPost16 l w) := by
  unfold HexPost16
  have hv := pre_hexV l
  have hk := pre_hexOk l
  rw [← hv, ← hk]
  have HB := Lib.hid hb
  clear hb hv hk
  go_enter Tryd.func72, Tryd.ntmps72
  go_wp2
  go_loop [2, 9] (fun n i => ∃ j : Nat, j ≤ 4 ∧ n = .int .u16 (preV l j) ∧ i = .int .i64 j ∧ Hid (preOk l j)) (fun _ i => 4 - (intOf i).toNat)
  case atStart => exact ⟨0, by omega, rfl, rfl, Lib.hid fun i hi => absurd hi (by omega)⟩
  case round =>
    obtain ⟨j, hj, rfl, rfl, hP⟩ := hrel
    have hr := preV_range l j hP.out hj
    by_cases hj4 : j < 4
    · have hc := HB.out j hj4
      have hra := atL_range l (2 + j)
      have h3 := hr.2.2 (by omega)
      have hr1 := hr.1
      have HV := Lib.hid (preV_succ l j)
      have HS : Hid (0 ≤ hx (atL l (2 + j)) → preOk l (j + 1)) := Lib.hid fun q i hi => by
        by_cases e : i = j
        · subst e; exact q
        · exact hP.out i (by omega)
      have HN : Hid (¬ 0 ≤ hx (atL l (2 + j)) → ¬ preOk l 4) := Lib.hid fun q r => q (r j hj4)
      have hxe : hx (atL l (2 + j)) = if 48 ≤ atL l (2 + j) ∧ atL l (2 + j) ≤ 57 then atL l (2 + j) - 48 else if 97 ≤ atL l (2 + j) ∧ atL l (2 + j) ≤ 102 then atL l (2 + j) - 87 else if 65 ≤ atL l (2 + j) ∧ atL l (2 + j) ≤ 70 then atL l (2 + j) - 55 else -1 := rfl
      clear hr
      generalize preV l j = p at *
      generalize hx (atL l (2 + j)) = x at *
      generalize atL l (2 + j) = c at *
      by_cases a : 48 ≤ c ∧ c ≤ 57
      · rw [if_pos a] at hxe
        have HR : Hid (preV l (j + 1) = 16 * p + (c - 48)) := Lib.hid (by rw [HV.out, hxe])
        have HO := Lib.hid (HS.out (by omega))
        obtain ⟨a1, a2⟩ := a
        clear HV HS HN hxe
        go_wp2
        go_round
        case rel => exact ⟨j + 1, by omega, by rw [HR.out]; go_num, by go_num, HO⟩
        case measure => simp [intOf]; omega
      · rw [if_neg a] at hxe
        by_cases b : 97 ≤ c ∧ c ≤ 102
        · rw [if_pos b] at hxe
          have HR : Hid (preV l (j + 1) = 16 * p + (c - 87)) := Lib.hid (by rw [HV.out, hxe])
          have HO := Lib.hid (HS.out (by omega))
          obtain ⟨a1, a2⟩ := b
          have a' : 57 < c := by omega
          clear HV HS HN hxe a
          go_wp2
          go_round
          case rel => exact ⟨j + 1, by omega, by rw [HR.out]; go_num, by go_num, HO⟩
          case measure => simp [intOf]; omega
        · rw [if_neg b] at hxe
          by_cases d : 65 ≤ c ∧ c ≤ 70
          · rw [if_pos d] at hxe
            have HR : Hid (preV l (j + 1) = 16 * p + (c - 55)) := Lib.hid (by rw [HV.out, hxe])
            have HO := Lib.hid (HS.out (by omega))
            obtain ⟨a1, a2⟩ := d
            have a' : 57 < c := by omega
            have b' : c < 97 := by omega
            clear HV HS HN hxe a b
            go_wp2
            go_round
            case rel => exact ⟨j + 1, by omega, by rw [HR.out]; go_num, by go_num, HO⟩
            case measure => simp [intOf]; omega
          · rw [if_neg d] at hxe
            have HO := Lib.hid (HN.out (by omega))
            have hcases : c < 48 ∨ (57 < c ∧ c < 65) ∨ (70 < c ∧ c < 97) ∨ 102 < c := by omega
            clear HV HS HN hxe a b d
            rcases hcases with q | ⟨q1, q2⟩ | ⟨q1, q2⟩ | q
            all_goals (
              go_wp2
              go_ret2
              exact ⟨.inr ⟨HO.out, rfl⟩, rfl⟩)
    · obtain rfl : j = 4 := by omega
      go_wp2
      go_ret2
      exact ⟨.inl ⟨hP.out, rfl⟩, rfl⟩
set_option maxRecDepth 100000 in
set_option maxHeartbeats 2000000 in
/-- No beginning of an escape by digits: the first two bytes tell. -/
theorem noPrefix (l : List UInt8) (g o cap : Nat) (low : Bool) (w : World) (hb : BytesAt w g o l) (hl : 0 < l.length) (hm : l.length ≤ 100) (hn : ¬ atL l 0 = 92 ∨ (2 ≤ l.length ∧ ¬ atL l 1 = 117)) :
    Calls Tryd.prog 70 #[.slice (some ⟨g, o, none⟩) l.length cap, .bool low] w fun e w' => e = .returned (.bool false) ∧ w' = w := by
  have c0 := hb 0 hl
  rw [Nat.add_zero] at c0
  by_cases q : atL l 0 = 92
  · obtain ⟨h2, h3⟩ : 2 ≤ l.length ∧ ¬ atL l 1 = 117 := by rcases hn with h | h; exact absurd q h; exact h
    have c1 := hb 1 (by omega)
    rw [q] at c0
    have h3' : (atL l 1 != 117) = true := by simpa using h3
    clear hb hn q h3
    generalize atL l 1 = c at *
    generalize l.length = n at *
    go_enter Tryd.func70, Tryd.ntmps70
    go_wp2
    refine wp_loop_rounds 2 ?_
    rw [rounds_succ]
    go_wp2
    rw [rounds_succ]
    go_wp2
    go_ret
    exact ⟨rfl, rfl⟩
  · have q' : (atL l 0 != 92) = true := by simpa using q
    clear hb hn q
    generalize atL l 0 = c at *
    generalize l.length = n at *
    go_enter Tryd.func70, Tryd.ntmps70
    go_wp2
    refine wp_loop_rounds 1 ?_
    rw [rounds_succ]
    go_wp2
    go_ret
    exact ⟨rfl, rfl⟩
def OwnErr (w : World) (e : Ending) (w' : World) : Prop := (∃ p : Addr, e = .returned (.iface 128 (.pointer (some p)))) ∧ Below w.heap.size w w'
set_option maxRecDepth 100000 in
theorem newEscErr (l : List UInt8) (b off cap : Nat) (w : World) (hp : BytesAt w b off l) (hm : l.length ≤ 1000) :
    Calls Tryd.prog 71 #[.slice (some ⟨b, off, none⟩) l.length cap] w (OwnErr w) := by
  have hcv : ∃ y, (convert 23 9 (.slice (some ⟨b, off, none⟩) l.length cap)).run Tryd.prog w = .ok (.string y) w :=
    ⟨_, run_convert_bytes_arg _ _ 5 Tryd.underlying23 Tryd.underlying5 b off l.length cap ((List.range l.length).map (atL l)) (by simp) (fun i hi => by
      have hil : i < l.length := by simpa using hi
      rw [hp i hil]
      simp [atL, List.getD_eq_getElem?_getD, hil]) 9 Tryd.underlying9⟩
  obtain ⟨y, hcv⟩ := hcv
  clear hp
  generalize l.length = n at *
  by_cases h : 6 < n
  · go_enter Tryd.func71, Tryd.ntmps71
    go_wp2
    go_ret
    exact ⟨⟨_, rfl⟩, (Below.refl _ _).alloc (Nat.le_refl _) _⟩
  · go_enter Tryd.func71, Tryd.ntmps71
    go_wp2
    go_ret
    exact ⟨⟨_, rfl⟩, (Below.refl _ _).alloc (Nat.le_refl _) _⟩
def plainB (c : Int) : Bool := decide (32 ≤ c ∧ c < 128 ∧ ¬ c = 92 ∧ ¬ c = 34)
theorem noEscape (c : Int) (b : Bool) (hb : b = plainB c) (w : World) : Calls Tryd.prog 69 #[.int .u8 c] w fun e w' => e = .returned (.bool b) ∧ w' = w := by
  have HB : Hid (b = decide (32 ≤ c ∧ c < 128 ∧ ¬ c = 92 ∧ ¬ c = 34)) := Lib.hid hb
  clear hb
  by_cases h1 : c < 128
  · by_cases h2 : 32 ≤ c
    · by_cases h3 : c = 92
      · have e : b = false := by rw [HB.out]; simp; omega
        subst e h3
        go_enter Tryd.func69, Tryd.ntmps69
        go_wp2
        go_ret
        exact ⟨rfl, rfl⟩
      · have h3' : (c != 92) = true := by simpa using h3
        by_cases h4 : c = 34
        · have e : b = false := by rw [HB.out]; simp; omega
          subst e h4
          go_enter Tryd.func69, Tryd.ntmps69
          go_wp2
          go_ret
          exact ⟨rfl, rfl⟩
        · have h4' : (c != 34) = true := by simpa using h4
          have e : b = true := by rw [HB.out]; simp; omega
          subst e
          clear h3 h4
          go_enter Tryd.func69, Tryd.ntmps69
          go_wp2
          go_ret
          first | exact ⟨rfl, rfl⟩ | exact ⟨ret_bool h4', rfl⟩
    · have e : b = false := by rw [HB.out]; simp; omega
      subst e
      go_enter Tryd.func69, Tryd.ntmps69
      go_wp2
      go_ret
      exact ⟨rfl, rfl⟩
  · have e : b = false := by rw [HB.out]; simp; omega
    subst e
    go_enter Tryd.func69, Tryd.ntmps69
    go_wp2
    go_ret
    exact ⟨rfl, rfl⟩
end Go.Proofs.YtldcoaigecnpfaaDoor
