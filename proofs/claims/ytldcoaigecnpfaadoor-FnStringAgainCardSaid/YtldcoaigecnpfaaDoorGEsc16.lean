/- The escapes of the package's own writer (appendEscapedUTF16, appendEscapedASCII, appendEscapedUnicode), walked, over bytes that a call appends to. -/
import Derived.Test.YtldcoaigecnpfaaDoorGQGen
import Derived.Test.YtldcoaigecnpfaaDoorGU4
import Derived.Laws.BitsLemmas
import Derived.Laws.BitsAllLaws
import Derived.Lib.Hide
import Derived.WalkLawsBesides
import Derived.BigRegion
import Derived.BigQuiet
import Derived.Deep.QuietTactic
namespace Go.Proofs.YtldcoaigecnpfaaDoor
open Go.RowKit
theorem u16_nib (x : Int) (h0 : 0 ≤ x) (h1 : x < 65536) : bits BinOp.and IntKind.u16 x 15 = x % 16 := bits_mask .u16 16 (by decide) (by intro n h0 h1; rw [IntKind.wrap_u16]; omega) 4 (by decide) x h0 h1
/-- Bytes that have just been laid. -/
theorem bytes_new (w : World) (l : List UInt8) (t : TypeId) : BytesAt (w.alloc (Obj.cells (nums l).toArray t)) w.heap.size 0 l := fun j hj => by
  rw [Nat.zero_add, cell_of_row _ _ j _ t (0, 0) (alloc_new w _), List.getElem?_toArray]
  exact nums_get l j hj
theorem src_new {w : World} {g n : Nat} {l : List UInt8} (hl : l.length = n) (h : BytesAt w g 0 l) : Src w 23 (.slice (some ⟨g, 0, none⟩) n n) l := by
  subst hl; exact Src.slice g 0 _ l h
def EscPost (base : Nat) (G : Option (Nat × Nat)) (l : List UInt8) (w : World) (e : Ending) (w' : World) : Prop := ∃ v', e = .returned v' ∧ Buf w' base G v' l ∧ Fr base G w w'
theorem Fr.alloc {base : Nat} {G : Option (Nat × Nat)} {a b : World} (h : Fr base G a b) (o : Obj) (hb : base ≤ a.heap.size) (hG : ∀ g o, G = some (g, o) → g < base) : Fr base G a (b.alloc o) := by
  refine h.trans ⟨rfl, rfl, rfl, by simp, fun k hk _ => alloc_old b _ k (by have := h.size; omega), fun g o e j _ => World.cell?_of_block (a := ⟨g, j, none⟩) (alloc_old b _ g (by have := hG g o e; have := h.size; omega)), fun g o e => .same (alloc_old b _ g (by have := hG g o e; have := h.size; omega))⟩
theorem Fr.allocd {base : Nat} {G : Option (Nat × Nat)} {a b : World} (h : Fr base G a b) (o : Obj) (hb : base ≤ a.heap.size) (hG : ∀ g o, G = some (g, o) → g < base) : Fr base G a (b.alloc o).drew := by
  have := h.alloc o hb hG
  exact ⟨this.os, this.tape, this.output, this.size, this.block, this.head, this.row⟩
set_option maxRecDepth 100000 in
set_option maxHeartbeats 1000000 in
theorem esc16 (x : Nat) (hx : x < 65536) (base : Nat) (G : Option (Nat × Nat)) (v : Value) (l : List UInt8) (w : World) (hB : Buf w base G v l) (hsz : l.length + 6 ≤ 140737488355328) (hbase : base ≤ w.heap.size) (hG : ∀ g o, G = some (g, o) → g < base) :
    Calls Tryd.prog 79 #[v, .int .u16 x] w (EscPost base G (l ++ u4 x) w) := by
  have e1 : bits BinOp.and IntKind.u16 ((x : Int) / 4096) 15 = ((x / 4096 % 16 : Nat) : Int) := by rw [u16_nib _ (by omega) (by omega)]; omega
  have e2 : bits BinOp.and IntKind.u16 ((x : Int) / 256) 15 = ((x / 256 % 16 : Nat) : Int) := by rw [u16_nib _ (by omega) (by omega)]; omega
  have e3 : bits BinOp.and IntKind.u16 ((x : Int) / 16) 15 = ((x / 16 % 16 : Nat) : Int) := by rw [u16_nib _ (by omega) (by omega)]; omega
  have e4 : bits BinOp.and IntKind.u16 (x : Int) 15 = ((x % 16 : Nat) : Int) := by rw [u16_nib _ (by omega) (by omega)]; omega
  have hu : Hid (u4 x = [92, 117, UInt8.ofNat (hexd (x / 4096 % 16)), UInt8.ofNat (hexd (x / 256 % 16)), UInt8.ofNat (hexd (x / 16 % 16)), UInt8.ofNat (hexd (x % 16))]) := rfl
  obtain ⟨a, ha, ea⟩ : ∃ a, a < 16 ∧ x / 4096 % 16 = a := ⟨_, Nat.mod_lt _ (by omega), rfl⟩
  obtain ⟨b, hb, eb⟩ : ∃ a, a < 16 ∧ x / 256 % 16 = a := ⟨_, Nat.mod_lt _ (by omega), rfl⟩
  obtain ⟨c, hc, ec⟩ : ∃ a, a < 16 ∧ x / 16 % 16 = a := ⟨_, Nat.mod_lt _ (by omega), rfl⟩
  obtain ⟨d, hd, ed⟩ : ∃ a, a < 16 ∧ x % 16 = a := ⟨_, Nat.mod_lt _ (by omega), rfl⟩
  rw [ea] at e1 hu
  rw [eb] at e2 hu
  rw [ec] at e3 hu
  rw [ed] at e4 hu
  clear ea eb ec ed
  have i1 : ∀ h, ((((⟨#[48, 49, 50, 51, 52, 53, 54, 55, 56, 57, 97, 98, 99, 100, 101, 102]⟩ : ByteArray)[a]'h).toNat : Nat) : Int) = (hexd a : Int) := fun h => hexU_at a ha h
  have i2 : ∀ h, ((((⟨#[48, 49, 50, 51, 52, 53, 54, 55, 56, 57, 97, 98, 99, 100, 101, 102]⟩ : ByteArray)[b]'h).toNat : Nat) : Int) = (hexd b : Int) := fun h => hexU_at b hb h
  have i3 : ∀ h, ((((⟨#[48, 49, 50, 51, 52, 53, 54, 55, 56, 57, 97, 98, 99, 100, 101, 102]⟩ : ByteArray)[c]'h).toNat : Nat) : Int) = (hexd c : Int) := fun h => hexU_at c hc h
  have i4 : ∀ h, ((((⟨#[48, 49, 50, 51, 52, 53, 54, 55, 56, 57, 97, 98, 99, 100, 101, 102]⟩ : ByteArray)[d]'h).toNat : Nat) : Int) = (hexd d : Int) := fun h => hexU_at d hd h
  have en : nums (u4 x) = [.int .u8 92, .int .u8 117, .int .u8 (hexd a), .int .u8 (hexd b), .int .u8 (hexd c), .int .u8 (hexd d)] := by
    rw [hu.out]
    have q : ∀ n, n < 16 → (UInt8.ofNat (hexd n)).toNat = hexd n := fun n hn => by
      have := hexd_lt n hn
      rw [UInt8.toNat_ofNat']; omega
    simp only [nums, List.map_cons, List.map_nil, q a ha, q b hb, q c hc, q d hd]
    rfl
  have hn : ∀ W : World, BytesAt (W.alloc (Obj.cells #[.int .u8 92, .int .u8 117, .int .u8 (hexd a), .int .u8 (hexd b), .int .u8 (hexd c), .int .u8 (hexd d)] 5)) W.heap.size 0 (u4 x) := fun W => by
    have := bytes_new W (u4 x) 5
    rw [en] at this
    exact this
  have ha' : (a : Int) < 16 := by omega
  have hb' : (b : Int) < 16 := by omega
  have hc' : (c : Int) < 16 := by omega
  have hd' : (d : Int) < 16 := by omega
  have hl : Hid ((u4 x).length = 6) := rfl
  have HB := Lib.hid hB
  have HN := Lib.hid hn
  have HG := Lib.hid hG
  clear hB hn hu en hG
  generalize u4 x = E at HN hl ⊢
  have hB' : Hid (Buf (w.alloc (Obj.cells #[.int .u8 92, .int .u8 117, .int .u8 (hexd a), .int .u8 (hexd b), .int .u8 (hexd c), .int .u8 (hexd d)] 5)).drew base G v l) := HB.out.alloc _
  have hX' : Hid (Src (w.alloc (Obj.cells #[.int .u8 92, .int .u8 117, .int .u8 (hexd a), .int .u8 (hexd b), .int .u8 (hexd c), .int .u8 (hexd d)] 5)).drew 23 (.slice (some ⟨w.heap.size, 0, none⟩) 6 6) E) := src_new hl.out (HN.out w)
  have q1 : Hid (l.length + E.length ≤ 140737488355328) := by show _ ≤ _; rw [hl.out]; exact hsz
  have q2 : Hid (base ≤ (w.alloc (Obj.cells #[.int .u8 92, .int .u8 117, .int .u8 (hexd a), .int .u8 (hexd b), .int .u8 (hexd c), .int .u8 (hexd d)] 5)).drew.heap.size) := by show _ ≤ _; simp; omega
  clear HN hl HB
  go_enter Tryd.func79, Tryd.ntmps79
  go_wp2
  go_region_law (refine step_append_buf rfl (.tmp 5) (.tmp 22) 23 rfl base G v l rfl hB'.out _ E rfl hX'.out q1.out q2.out HG.out ?_; intro v2 w2 hb2 hg2 hf2 _)
  all_goals
    have hf3 := Fr.trans ((Fr.refl base G w).allocd _ hbase HG.out) hf2
    clear hf2 hg2
    go_wp2
    go_ret
    exact ⟨v2, rfl, hb2, hf3⟩
def escA (c : Nat) : List UInt8 := if c = 34 then [92, 34] else if c = 92 then [92, 92] else if c = 8 then [92, 98] else if c = 12 then [92, 102] else if c = 10 then [92, 110] else if c = 13 then [92, 114] else if c = 9 then [92, 116] else u4 c
theorem escA_length (c : Nat) : (escA c).length ≤ 6 := by
  unfold escA
  (repeat' split) <;> simp [u4_length]
theorem u8_u16 (c : Nat) (h : c < 256) : IntKind.u16.wrap (c : Int) = c := by rw [IntKind.wrap_u16]; omega
set_option maxRecDepth 100000 in
set_option maxHeartbeats 1000000 in
theorem escAscii (c : Nat) (hc : c < 128) (base : Nat) (G : Option (Nat × Nat)) (v : Value) (l : List UInt8) (w : World) (hB : Buf w base G v l) (hsz : l.length + 6 ≤ 140737488355328) (hbase : base ≤ w.heap.size) (hG : ∀ g o, G = some (g, o) → g < base) :
    Calls Tryd.prog 54 #[v, .int .u8 c] w (EscPost base G (l ++ escA c) w) := by
  have h16 := esc16 c (by omega) base G v l w hB hsz hbase hG
  have hw := u8_u16 c (by omega)
  have HB := Lib.hid hB
  have HG := Lib.hid hG
  have H16 := Lib.hid h16
  clear hB hG h16
  by_cases k34 : c = 34
  · subst k34
    have hn : Hid (∀ W : World, BytesAt (W.alloc (Obj.cells #[.int .u8 92, .int .u8 34] 5)) W.heap.size 0 [92, 34]) := fun W => bytes_new W [92, 34] 5
    clear hw H16
    have e : escA 34 = [92, 34] := rfl
    have ec : ((34 : Nat) : Int) = 34 := rfl
    rw [e, ec]
    clear e ec
    go_enter Tryd.func54, Tryd.ntmps54
    go_wp2_with (at_builtin; refine wpList_append_buf rfl (.tmp 13) (.tmp 15) 23 rfl base G v l rfl (HB.out.alloc _) _ [92, 34] rfl (src_new rfl (hn.out w)) ?c1 ?c2 HG.out ?_)
    case c1 => simp; omega
    case c2 => simp; omega
    intro v2 w2 hb2 hg2 hf2 _
    have hf3 := Fr.trans ((Fr.refl base G w).alloc _ hbase HG.out) hf2
    clear hf2 hg2
    go_wp2
    go_ret
    exact ⟨v2, rfl, hb2, hf3⟩
  by_cases k92 : c = 92
  · subst k92
    have hn : Hid (∀ W : World, BytesAt (W.alloc (Obj.cells #[.int .u8 92, .int .u8 92] 5)) W.heap.size 0 [92, 92]) := fun W => bytes_new W [92, 92] 5
    clear hw H16
    have e : escA 92 = [92, 92] := rfl
    have ec : ((92 : Nat) : Int) = 92 := rfl
    rw [e, ec]
    clear e ec
    go_enter Tryd.func54, Tryd.ntmps54
    go_wp2_with (at_builtin; refine wpList_append_buf rfl (.tmp 13) (.tmp 15) 23 rfl base G v l rfl (HB.out.alloc _) _ [92, 92] rfl (src_new rfl (hn.out w)) ?c1 ?c2 HG.out ?_)
    case c1 => simp; omega
    case c2 => simp; omega
    intro v2 w2 hb2 hg2 hf2 _
    have hf3 := Fr.trans ((Fr.refl base G w).alloc _ hbase HG.out) hf2
    clear hf2 hg2
    go_wp2
    go_ret
    exact ⟨v2, rfl, hb2, hf3⟩
  by_cases k8 : c = 8
  · subst k8
    clear hw H16
    have e : escA 8 = [92, 98] := rfl
    have ec : ((8 : Nat) : Int) = 8 := rfl
    rw [e, ec]
    clear e ec
    go_enter Tryd.func54, Tryd.ntmps54
    go_wp2_with (at_builtin; refine wpList_append_buf rfl (.tmp 19) (.const (.string ⟨#[92, 98]⟩)) 9 rfl base G v l rfl HB.out _ [92, 98] rfl (Src.text ⟨#[92, 98]⟩) ?c1 hbase HG.out ?_)
    case c1 => simp; omega
    intro v2 w2 hb2 hg2 hf2 _
    clear hg2
    go_wp2
    go_ret
    exact ⟨v2, rfl, hb2, hf2⟩
  by_cases k12 : c = 12
  · subst k12
    clear hw H16
    have e : escA 12 = [92, 102] := rfl
    have ec : ((12 : Nat) : Int) = 12 := rfl
    rw [e, ec]
    clear e ec
    go_enter Tryd.func54, Tryd.ntmps54
    go_wp2_with (at_builtin; refine wpList_append_buf rfl (.tmp 23) (.const (.string ⟨#[92, 102]⟩)) 9 rfl base G v l rfl HB.out _ [92, 102] rfl (Src.text ⟨#[92, 102]⟩) ?c1 hbase HG.out ?_)
    case c1 => simp; omega
    intro v2 w2 hb2 hg2 hf2 _
    clear hg2
    go_wp2
    go_ret
    exact ⟨v2, rfl, hb2, hf2⟩
  by_cases k10 : c = 10
  · subst k10
    clear hw H16
    have e : escA 10 = [92, 110] := rfl
    have ec : ((10 : Nat) : Int) = 10 := rfl
    rw [e, ec]
    clear e ec
    go_enter Tryd.func54, Tryd.ntmps54
    go_wp2_with (at_builtin; refine wpList_append_buf rfl (.tmp 27) (.const (.string ⟨#[92, 110]⟩)) 9 rfl base G v l rfl HB.out _ [92, 110] rfl (Src.text ⟨#[92, 110]⟩) ?c1 hbase HG.out ?_)
    case c1 => simp; omega
    intro v2 w2 hb2 hg2 hf2 _
    clear hg2
    go_wp2
    go_ret
    exact ⟨v2, rfl, hb2, hf2⟩
  by_cases k13 : c = 13
  · subst k13
    clear hw H16
    have e : escA 13 = [92, 114] := rfl
    have ec : ((13 : Nat) : Int) = 13 := rfl
    rw [e, ec]
    clear e ec
    go_enter Tryd.func54, Tryd.ntmps54
    go_wp2_with (at_builtin; refine wpList_append_buf rfl (.tmp 31) (.const (.string ⟨#[92, 114]⟩)) 9 rfl base G v l rfl HB.out _ [92, 114] rfl (Src.text ⟨#[92, 114]⟩) ?c1 hbase HG.out ?_)
    case c1 => simp; omega
    intro v2 w2 hb2 hg2 hf2 _
    clear hg2
    go_wp2
    go_ret
    exact ⟨v2, rfl, hb2, hf2⟩
  by_cases k9 : c = 9
  · subst k9
    clear hw H16
    have e : escA 9 = [92, 116] := rfl
    have ec : ((9 : Nat) : Int) = 9 := rfl
    rw [e, ec]
    clear e ec
    go_enter Tryd.func54, Tryd.ntmps54
    go_wp2_with (at_builtin; refine wpList_append_buf rfl (.tmp 35) (.const (.string ⟨#[92, 116]⟩)) 9 rfl base G v l rfl HB.out _ [92, 116] rfl (Src.text ⟨#[92, 116]⟩) ?c1 hbase HG.out ?_)
    case c1 => simp; omega
    intro v2 w2 hb2 hg2 hf2 _
    clear hg2
    go_wp2
    go_ret
    exact ⟨v2, rfl, hb2, hf2⟩
  · have e : escA c = u4 c := by unfold escA; rw [if_neg k34, if_neg k92, if_neg k8, if_neg k12, if_neg k10, if_neg k13, if_neg k9]
    rw [e]
    have e1 : ((c : Int) == 34) = false := by simp; omega
    have e2 : ((c : Int) == 92) = false := by simp; omega
    have e3 : ((c : Int) == 8) = false := by simp; omega
    have e4 : ((c : Int) == 12) = false := by simp; omega
    have e5 : ((c : Int) == 10) = false := by simp; omega
    have e6 : ((c : Int) == 13) = false := by simp; omega
    have e7 : ((c : Int) == 9) = false := by simp; omega
    clear e k34 k92 k8 k12 k10 k13 k9
    generalize u4 c = E at H16 ⊢
    go_enter Tryd.func54, Tryd.ntmps54
    go_wp2_with fail
    refine H16.out.mono ?_
    rintro e w' ⟨v2, rfl, hb2, hf2⟩
    clear H16
    go_wp2
    go_ret
    exact ⟨v2, rfl, hb2, hf2⟩
end Go.Proofs.YtldcoaigecnpfaaDoor
