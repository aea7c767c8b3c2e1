/- The package's appendHTMLEscape, walked: the five characters of a text by escapes, behind other bytes. -/
import Derived.Test.YtklncgmfbflooaaDoorBuf
import Derived.WalkLawsBesides
import Derived.BigQuiet
import Derived.BigRegion
import Derived.Deep.QuietTactic
import Derived.Lib.Hide
namespace Go.Proofs.YtklncgmfbflooaaDoor
open Go.RowKit
/-- Escaped: 's' more bytes belong to a character that is written already. -/
def escF : Nat → List UInt8 → List UInt8
  | _, [] => []
  | s + 1, _ :: r => escF s r
  | 0, c :: r =>
    if c = 60 then [92, 117, 48, 48, 51, 99] ++ escF 0 r
    else if c = 62 then [92, 117, 48, 48, 51, 101] ++ escF 0 r
    else if c = 38 then [92, 117, 48, 48, 50, 54] ++ escF 0 r
    else if c = 226 ∧ r.take 2 = [128, 168] then [92, 117, 50, 48, 50, 56] ++ escF 2 r
    else if c = 226 ∧ r.take 2 = [128, 169] then [92, 117, 50, 48, 50, 57] ++ escF 2 r
    else c :: escF 0 r
theorem atL_nat (l : List UInt8) (k : Nat) (h : k < l.length) : atL l k = ((l[k]'h).toNat : Int) := by
  unfold atL; rw [List.getD_eq_getElem?_getD, List.getElem?_eq_getElem h]; rfl
theorem atL_byte (l : List UInt8) (k : Nat) (h : k < l.length) (b : UInt8) : atL l k = (b.toNat : Int) ↔ l[k]'h = b := by
  rw [atL_nat l k h]
  constructor
  · intro e; exact UInt8.toNat_inj.1 (by omega)
  · intro e; rw [e]
theorem drop_at' (l : List UInt8) (k : Nat) (h : k < l.length) : l.drop k = l[k]'h :: l.drop (k + 1) := List.drop_eq_getElem_cons h
theorem take2_iff (l : List UInt8) (k : Nat) (x y : UInt8) : (l.drop k).take 2 = [x, y] ↔ ∃ (h : k + 1 < l.length), l[k]'(by omega) = x ∧ l[k+1]'h = y := by
  constructor
  · intro e
    have hl := congrArg List.length e
    simp at hl
    have h : k + 1 < l.length := by omega
    rw [drop_at' l k (by omega), drop_at' l (k+1) h] at e
    simp only [List.take_succ_cons, List.take_zero, List.cons.injEq, and_true] at e
    exact ⟨h, e.1, e.2⟩
  · rintro ⟨h, rfl, rfl⟩
    rw [drop_at' l k (by omega), drop_at' l (k+1) h]; simp only [List.take_succ_cons, List.take_zero]
/-- What is known in the walk's middle: 'st' the place up to which all is written, 'k' the place of the next byte. -/
structure HInv (m : List UInt8) (k st : Nat) (out : List UInt8) (s : Nat) : Prop where
  kl : k ≤ m.length
  stl : st ≤ m.length
  s0 : s = 0 → st ≤ k
  s1 : 0 < s → st = k + s
  high : ∀ j, j < s → 128 ≤ atL m (k + j) ∧ ¬ atL m (k + j) = 226
  eq : escF 0 m = out ++ (m.drop st).take (k - st) ++ escF s (m.drop k)
theorem HInv.start (m : List UInt8) : HInv m 0 0 [] 0 := ⟨Nat.zero_le _, Nat.zero_le _, fun _ => Nat.le_refl _, fun h => absurd h (Nat.lt_irrefl _), fun j h => absurd h (Nat.not_lt_zero _), by simp⟩
theorem HInv.fin {m : List UInt8} {st : Nat} {out : List UInt8} {s : Nat} (h : HInv m m.length st out s) : escF 0 m = out ++ m.drop st := by
  have := h.eq
  rw [List.drop_length] at this
  have e : ∀ s, escF s [] = [] := fun s => by cases s <;> rfl
  rw [e, List.append_nil] at this
  rw [this]
  congr 1
  apply List.take_of_length_le
  simp
theorem slice_step (m : List UInt8) (st k : Nat) (h1 : st ≤ k) (h : k < m.length) : (m.drop st).take (k + 1 - st) = (m.drop st).take (k - st) ++ [m[k]'h] := by
  have e : k + 1 - st = (k - st) + 1 := by omega
  rw [e, List.take_add_one]
  congr 1
  rw [List.getElem?_drop]
  have : st + (k - st) = k := by omega
  rw [this, List.getElem?_eq_getElem h]; rfl
/-- A byte that is written as it stands. -/
theorem HInv.plain {m : List UInt8} {k st : Nat} {out : List UInt8} {s : Nat} (h : HInv m k st out s) (hk : k < m.length) (h1 : ¬ atL m k = 60) (h2 : ¬ atL m k = 62) (h3 : ¬ atL m k = 38)
    (h4 : ¬ (atL m k = 226 ∧ k + 2 < m.length ∧ atL m (k + 1) = 128 ∧ (atL m (k + 2) = 168 ∨ atL m (k + 2) = 169))) : HInv m (k + 1) st out (s - 1) := by
  have hst := h.stl
  rcases Nat.eq_zero_or_pos s with rfl | hs
  · have hle := h.s0 rfl
    refine ⟨hk, hst, fun _ => by omega, fun h => absurd h (by simp), fun j h => absurd h (by omega), ?_⟩
    have e := h.eq
    rw [drop_at' m k hk, escF] at e
    have n1 : ¬ m[k]'hk = 60 := fun q => h1 ((atL_byte m k hk 60).2 q)
    have n2 : ¬ m[k]'hk = 62 := fun q => h2 ((atL_byte m k hk 62).2 q)
    have n3 : ¬ m[k]'hk = 38 := fun q => h3 ((atL_byte m k hk 38).2 q)
    have n4 : ¬ (m[k]'hk = 226 ∧ (m.drop (k + 1)).take 2 = [128, 168]) := fun ⟨q, r⟩ => by
      obtain ⟨r1, r2, r3⟩ := (take2_iff m (k + 1) 128 168).1 r
      exact h4 ⟨(atL_byte m k hk 226).2 q, r1, (atL_byte m (k + 1) _ 128).2 r2, .inl ((atL_byte m (k + 2) _ 168).2 r3)⟩
    have n5 : ¬ (m[k]'hk = 226 ∧ (m.drop (k + 1)).take 2 = [128, 169]) := fun ⟨q, r⟩ => by
      obtain ⟨r1, r2, r3⟩ := (take2_iff m (k + 1) 128 169).1 r
      exact h4 ⟨(atL_byte m k hk 226).2 q, r1, (atL_byte m (k + 1) _ 128).2 r2, .inr ((atL_byte m (k + 2) _ 169).2 r3)⟩
    rw [if_neg n1, if_neg n2, if_neg n3, if_neg n4, if_neg n5] at e
    rw [e, slice_step m st k hle hk]
    simp
  · have hks := h.s1 hs
    refine ⟨hk, hst, fun q => by omega, fun q => by omega, fun j hj => ?_, ?_⟩
    · have := h.high (j + 1) (by omega)
      have e : k + (j + 1) = k + 1 + j := by omega
      rw [e] at this; exact this
    · have e := h.eq
      rw [drop_at' m k hk] at e
      obtain ⟨t, rfl⟩ : ∃ t, s = t + 1 := ⟨s - 1, by omega⟩
      rw [escF] at e
      rw [e]
      have e1 : k - st = 0 := by omega
      have e2 : k + 1 - st = 0 := by omega
      rw [e1, e2]
      rfl
theorem HInv.zero {m : List UInt8} {k st : Nat} {out : List UInt8} {s : Nat} (h : HInv m k st out s) (h1 : atL m k < 128 ∨ atL m k = 226) : s = 0 := by
  rcases Nat.eq_zero_or_pos s with h0 | hs
  · exact h0
  · have := h.high 0 hs
    rw [Nat.add_zero] at this
    omega
/-- One of three. -/
theorem HInv.three {m : List UInt8} {k st : Nat} {out : List UInt8} {s : Nat} (h : HInv m k st out s) (hk : k < m.length) (c : UInt8) (e : List UInt8) (hc : atL m k = (c.toNat : Int))
    (he : c = 60 ∧ e = [92, 117, 48, 48, 51, 99] ∨ c = 62 ∧ e = [92, 117, 48, 48, 51, 101] ∨ c = 38 ∧ e = [92, 117, 48, 48, 50, 54]) : st ≤ k ∧ HInv m (k + 1) (k + 1) (out ++ (m.drop st).take (k - st) ++ e) 0 := by
  have hs : s = 0 := h.zero (by rcases he with ⟨rfl, _⟩ | ⟨rfl, _⟩ | ⟨rfl, _⟩ <;> rw [hc] <;> decide)
  subst hs
  refine ⟨h.s0 rfl, hk, hk, fun _ => Nat.le_refl _, fun q => absurd q (Nat.lt_irrefl _), fun j q => absurd q (Nat.not_lt_zero _), ?_⟩
  have e := h.eq
  rw [drop_at' m k hk, escF, (atL_byte m k hk c).1 hc] at e
  rw [e]
  rcases he with ⟨rfl, rfl⟩ | ⟨rfl, rfl⟩ | ⟨rfl, rfl⟩ <;> simp
/-- One of two. -/
theorem HInv.two {m : List UInt8} {k st : Nat} {out : List UInt8} {s : Nat} (h : HInv m k st out s) (hk : k + 2 < m.length) (d : UInt8) (e : List UInt8) (h0 : atL m k = 226) (h1 : atL m (k + 1) = 128) (h2 : atL m (k + 2) = (d.toNat : Int))
    (he : d = 168 ∧ e = [92, 117, 50, 48, 50, 56] ∨ d = 169 ∧ e = [92, 117, 50, 48, 50, 57]) : st ≤ k ∧ HInv m (k + 1) (k + 3) (out ++ (m.drop st).take (k - st) ++ e) 2 := by
  have hs : s = 0 := h.zero (by omega)
  subst hs
  refine ⟨h.s0 rfl, by omega, by omega, fun q => by omega, fun _ => by omega, fun j hj => ?_, ?_⟩
  · have hd : (d.toNat : Int) = 168 ∨ (d.toNat : Int) = 169 := by rcases he with ⟨rfl, _⟩ | ⟨rfl, _⟩ <;> decide
    match j, hj with
    | 0, _ => rw [Nat.add_zero, h1]; omega
    | 1, _ => rw [show k + 1 + 1 = k + 2 from rfl, h2]; omega
  · have e := h.eq
    rw [drop_at' m k (by omega), escF, (atL_byte m k (by omega) 226).1 h0] at e
    have r0 := (atL_byte m (k + 1) (by omega) 128).1 h1
    have r1 := (atL_byte m (k + 2) (by omega) d).1 h2
    rw [e]
    have e2 : k + 1 - (k + 3) = 0 := by omega
    rw [e2]
    rcases he with ⟨rfl, rfl⟩ | ⟨rfl, rfl⟩
    · have ht : (m.drop (k + 1)).take 2 = [128, 168] := (take2_iff m (k + 1) 128 168).2 ⟨by omega, r0, r1⟩
      simp [ht]
    · have ht : (m.drop (k + 1)).take 2 = [128, 169] := (take2_iff m (k + 1) 128 169).2 ⟨by omega, r0, r1⟩
      simp [ht]
def HtmlPost (base : Nat) (G : Option (Nat × Nat)) (L : List UInt8) (w : World) (e : Ending) (w' : World) : Prop := ∃ v', e = .returned v' ∧ Buf w' base G v' L ∧ Fr base G w w'
theorem escF_length : ∀ (m : List UInt8) (s : Nat), (escF s m).length ≤ 6 * m.length
  | [], s => by cases s <;> simp [escF]
  | c :: r, s + 1 => by rw [escF]; have := escF_length r s; simp; omega
  | c :: r, 0 => by
    have h0 := escF_length r 0
    have h2 := escF_length r 2
    rw [escF]
    repeat' split
    all_goals simp
    all_goals omega
theorem HInv.bound {m : List UInt8} {k st : Nat} {out : List UInt8} {s : Nat} (h : HInv m k st out s) : out.length ≤ 6 * m.length := by
  have h1 := congrArg List.length h.eq
  have h2 := escF_length m 0
  simp only [List.length_append] at h1
  omega
theorem bytes_new (w : World) (l : List UInt8) (t : TypeId) : BytesAt (w.alloc (Obj.cells (nums l).toArray t)) w.heap.size 0 l := fun j hj => by
  rw [cell_of_row _ _ _ _ _ _ (alloc_new w _), Nat.zero_add, List.getElem?_toArray, nums_get l j hj]
theorem Fr.alloc {base : Nat} {G : Option (Nat × Nat)} {w w1 : World} (h : Fr base G w w1) (o : Obj) (hb : base ≤ w.heap.size) (hG : ∀ g o, G = some (g, o) → g < base) : Fr base G w (w1.alloc o) :=
  h.trans ⟨rfl, rfl, rfl, by simp, fun k hk _ => alloc_old w1 o k (by have := h.size; omega), fun g o' e j _ => World.cell?_of_block (a := ⟨g, j, none⟩) (alloc_old w1 o g (by have := h.size; have := hG g o' e; omega)), fun g o' e => .same (alloc_old w1 o g (by have := h.size; have := hG g o' e; omega))⟩
theorem Fr.allocd {base : Nat} {G : Option (Nat × Nat)} {w w1 : World} (h : Fr base G w w1) (o : Obj) (hb : base ≤ w.heap.size) (hG : ∀ g o, G = some (g, o) → g < base) : Fr base G w (w1.alloc o).drew := by
  have := h.alloc o hb hG
  exact ⟨this.os, this.tape, this.output, this.size, this.block, this.head, this.row⟩
theorem andNot_all : ∀ d : Fin 256, (bits BinOp.andNot IntKind.u8 (d.val : Int) 1 == 168) = true → d.val = 168 ∨ d.val = 169 := by decide +kernel
theorem andNot_no (d : Int) (h : 0 ≤ d ∧ d < 256) (h1 : ¬ d = 168) (h2 : ¬ d = 169) : (bits BinOp.andNot IntKind.u8 d 1 == 168) = false := by
  obtain ⟨n, rfl⟩ : ∃ n : Nat, d = n := ⟨d.toNat, by omega⟩
  rcases hb : (bits BinOp.andNot IntKind.u8 (n : Int) 1 == 168) with _ | _
  · rfl
  · have := andNot_all ⟨n, by omega⟩ hb
    simp only at this
    omega
/-- A part of a row, to be appended. -/
theorem src_part {w : World} {g : Nat} {m : List UInt8} (h : BytesAt w g 0 m) (a b c : Nat) (hab : a ≤ b) (hb : b ≤ m.length) : Src w 56 (.slice (some ⟨g, a, none⟩) (b - a) c) ((m.drop a).take (b - a)) := by
  have hl : ((m.drop a).take (b - a)).length = b - a := by simp; omega
  have := Src.slice g a c ((m.drop a).take (b - a)) (w := w) (fun j hj => by
    rw [hl] at hj
    have e := h (a + j) (by omega)
    rw [Nat.zero_add] at e
    rw [e]
    unfold atL
    simp [List.getD_eq_getElem?_getD, hj])
  rw [hl] at this
  exact this
set_option maxRecDepth 100000 in
set_option maxHeartbeats 2000000 in
theorem appendHTML (base : Nat) (G : Option (Nat × Nat)) (v : Value) (l : List UInt8) (g cap : Nat) (m : List UInt8) (w : World) (hB : Buf w base G v l) (hm : BytesAt w g 0 m) (hcap : m.length ≤ cap) (_hcm : cap ≤ maxLen)
    (hsz : l.length + 6 * m.length ≤ 140737488355328) (hbase : base ≤ w.heap.size) (hG : ∀ g o, G = some (g, o) → g < base) (hg : g < base) (hgG : ∀ o, G ≠ some (g, o)) :
    Calls Tryd.prog 45 #[v, .slice (some ⟨g, 0, none⟩) m.length cap] w (HtmlPost base G (l ++ escF 0 m) w) := by
  obtain ⟨L, hL⟩ : ∃ L, L = l ++ escF 0 m := ⟨_, rfl⟩
  rw [← hL]
  obtain ⟨n, hn⟩ : ∃ n, n = m.length := ⟨_, rfl⟩
  have hml : m.length ≤ 140737488355328 := by omega
  rw [← hn] at hcap hml ⊢
  have HN := Lib.hid hn
  have HL := Lib.hid hL
  have HSZ := Lib.hid hsz
  clear hn hL hsz
  have hstart : Hid (HInv m 0 0 [] 0) := HInv.start m
  go_enter Tryd.func45, Tryd.ntmps45
  go_wp2
  go_loopw [0, 5, 10] (fun v b i wr => ∃ (k st s : Nat) (out : List UInt8), k ≤ n ∧ i = .int .i64 k ∧ b = .int .i64 st ∧ Buf wr base G v (l ++ out) ∧ Fr base G w wr ∧ Hid (HInv m k st out s)) (fun _ _ i _ => n - (intOf i).toNat)
  case atStart => exact ⟨0, 0, 0, [], Nat.zero_le _, rfl, rfl, by rw [List.append_nil]; exact hB, Fr.refl _ _ _, hstart⟩
  case round =>
    obtain ⟨k, st, s, out, hk, rfl, rfl, hb, hf, hI⟩ := hrel
    by_cases hkn : k < n
    · have hkm : k < m.length := by rw [← HN.out]; exact hkn
      have hmr := hm.fr hf hg hgG
      have ck := hmr k hkm
      rw [Nat.zero_add] at ck
      have HM := Lib.hid hmr
      clear hmr
      by_cases h60 : atL m k = 60
      · have hst := (hI.out.three hkm 60 _ (by rw [h60]; rfl) (.inl ⟨rfl, rfl⟩)).1
        have HT : Hid (HInv m (k + 1) (k + 1) (out ++ (m.drop st).take (k - st) ++ [92, 117, 48, 48, 51, 99]) 0) := (hI.out.three hkm 60 _ (by rw [h60]; rfl) (.inl ⟨rfl, rfl⟩)).2
        have hlen : Hid ((l ++ out).length + (k - st) + 6 ≤ 140737488355328) := by
          have h1 := HSZ.out; have h2 := HT.out.bound; simp at h2; show _ ≤ _; simp; omega
        rw [h60] at ck
        clear h60
        have e15 : bits BinOp.and IntKind.u8 60 15 = 12 := by decide
        have hiA : ∀ h, ((((⟨#[48, 49, 50, 51, 52, 53, 54, 55, 56, 57, 97, 98, 99, 100, 101, 102]⟩ : ByteArray)[3]'h).toNat : Nat) : Int) = 51 := fun _ => rfl
        have hiB : ∀ h, ((((⟨#[48, 49, 50, 51, 52, 53, 54, 55, 56, 57, 97, 98, 99, 100, 101, 102]⟩ : ByteArray)[12]'h).toNat : Nat) : Int) = 99 := fun _ => rfl
        go_wp2_with (at_builtin; refine wpList_append_buf rfl (.tmp 25) (.tmp 29) 56 rfl base G u0 (l ++ out) rfl hb _ _ rfl (src_part HM.out st k (cap - st) hst (Nat.le_of_lt hkm)) ?c1 (Nat.le_trans hbase hf.size) hG ?_)
        case c1 => have := hlen.out; simp at this ⊢; omega
        intro v1 w1 hb1 hg1 hf1 _
        have hf' := hf.trans hf1
        clear hb hg1 hf1
        go_wp2
        go_region_law (refine step_append_buf rfl (.tmp 31) (.tmp 38) 56 rfl base G v1 _ rfl ((show Buf w1.drew base G v1 _ from hb1).alloc _) _ [92, 117, 48, 48, 51, 99] rfl (Src.slice _ 0 6 [92, 117, 48, 48, 51, 99] (bytes_new w1.drew _ _)) (by have := hlen.out; simp at this ⊢; omega) (by have := hbase; have := hf'.size; simp; omega) hG ?_; intro v2 w2 hb2 hg2 hf2 _)
        all_goals
          have hf3 := Fr.trans (hf'.allocd _ hbase hG) hf2
          clear hf2 hg2 hf' hf hb1
          go_wp2
          go_roundw
          case rel => exact ⟨k + 1, k + 1, 0, _, by omega, by go_num, by go_num, by simpa only [List.append_assoc] using hb2, hf3, HT⟩
          case measure => simp [intOf]; omega
      · by_cases h62 : atL m k = 62
        · have hst := (hI.out.three hkm 62 _ (by rw [h62]; rfl) (.inr (.inl ⟨rfl, rfl⟩))).1
          have HT : Hid (HInv m (k + 1) (k + 1) (out ++ (m.drop st).take (k - st) ++ [92, 117, 48, 48, 51, 101]) 0) := (hI.out.three hkm 62 _ (by rw [h62]; rfl) (.inr (.inl ⟨rfl, rfl⟩))).2
          have hlen : Hid ((l ++ out).length + (k - st) + 6 ≤ 140737488355328) := by
            have h1 := HSZ.out; have h2 := HT.out.bound; simp at h2; show _ ≤ _; simp; omega
          rw [h62] at ck
          clear h62
          have e15 : bits BinOp.and IntKind.u8 62 15 = 14 := by decide
          have hiA : ∀ h, ((((⟨#[48, 49, 50, 51, 52, 53, 54, 55, 56, 57, 97, 98, 99, 100, 101, 102]⟩ : ByteArray)[3]'h).toNat : Nat) : Int) = 51 := fun _ => rfl
          have hiB : ∀ h, ((((⟨#[48, 49, 50, 51, 52, 53, 54, 55, 56, 57, 97, 98, 99, 100, 101, 102]⟩ : ByteArray)[14]'h).toNat : Nat) : Int) = 101 := fun _ => rfl
          go_wp2_with (at_builtin; refine wpList_append_buf rfl (.tmp 25) (.tmp 29) 56 rfl base G u0 (l ++ out) rfl hb _ _ rfl (src_part HM.out st k (cap - st) hst (Nat.le_of_lt hkm)) ?c1 (Nat.le_trans hbase hf.size) hG ?_)
          case c1 => have := hlen.out; simp at this ⊢; omega
          intro v1 w1 hb1 hg1 hf1 _
          have hf' := hf.trans hf1
          clear hb hg1 hf1
          go_wp2
          go_region_law (refine step_append_buf rfl (.tmp 31) (.tmp 38) 56 rfl base G v1 _ rfl ((show Buf w1.drew base G v1 _ from hb1).alloc _) _ [92, 117, 48, 48, 51, 101] rfl (Src.slice _ 0 6 [92, 117, 48, 48, 51, 101] (bytes_new w1.drew _ _)) (by have := hlen.out; simp at this ⊢; omega) (by have := hbase; have := hf'.size; simp; omega) hG ?_; intro v2 w2 hb2 hg2 hf2 _)
          all_goals
            have hf3 := Fr.trans (hf'.allocd _ hbase hG) hf2
            clear hf2 hg2 hf' hf hb1
            go_wp2
            go_roundw
            case rel => exact ⟨k + 1, k + 1, 0, _, by omega, by go_num, by go_num, by simpa only [List.append_assoc] using hb2, hf3, HT⟩
            case measure => simp [intOf]; omega
        
        · by_cases h38 : atL m k = 38
          · have hst := (hI.out.three hkm 38 _ (by rw [h38]; rfl) (.inr (.inr ⟨rfl, rfl⟩))).1
            have HT : Hid (HInv m (k + 1) (k + 1) (out ++ (m.drop st).take (k - st) ++ [92, 117, 48, 48, 50, 54]) 0) := (hI.out.three hkm 38 _ (by rw [h38]; rfl) (.inr (.inr ⟨rfl, rfl⟩))).2
            have hlen : Hid ((l ++ out).length + (k - st) + 6 ≤ 140737488355328) := by
              have h1 := HSZ.out; have h2 := HT.out.bound; simp at h2; show _ ≤ _; simp; omega
            rw [h38] at ck
            clear h38
            have e15 : bits BinOp.and IntKind.u8 38 15 = 6 := by decide
            have hiA : ∀ h, ((((⟨#[48, 49, 50, 51, 52, 53, 54, 55, 56, 57, 97, 98, 99, 100, 101, 102]⟩ : ByteArray)[2]'h).toNat : Nat) : Int) = 50 := fun _ => rfl
            have hiB : ∀ h, ((((⟨#[48, 49, 50, 51, 52, 53, 54, 55, 56, 57, 97, 98, 99, 100, 101, 102]⟩ : ByteArray)[6]'h).toNat : Nat) : Int) = 54 := fun _ => rfl
            go_wp2_with (at_builtin; refine wpList_append_buf rfl (.tmp 25) (.tmp 29) 56 rfl base G u0 (l ++ out) rfl hb _ _ rfl (src_part HM.out st k (cap - st) hst (Nat.le_of_lt hkm)) ?c1 (Nat.le_trans hbase hf.size) hG ?_)
            case c1 => have := hlen.out; simp at this ⊢; omega
            intro v1 w1 hb1 hg1 hf1 _
            have hf' := hf.trans hf1
            clear hb hg1 hf1
            go_wp2
            go_region_law (refine step_append_buf rfl (.tmp 31) (.tmp 38) 56 rfl base G v1 _ rfl ((show Buf w1.drew base G v1 _ from hb1).alloc _) _ [92, 117, 48, 48, 50, 54] rfl (Src.slice _ 0 6 [92, 117, 48, 48, 50, 54] (bytes_new w1.drew _ _)) (by have := hlen.out; simp at this ⊢; omega) (by have := hbase; have := hf'.size; simp; omega) hG ?_; intro v2 w2 hb2 hg2 hf2 _)
            all_goals
              have hf3 := Fr.trans (hf'.allocd _ hbase hG) hf2
              clear hf2 hg2 hf' hf hb1
              go_wp2
              go_roundw
              case rel => exact ⟨k + 1, k + 1, 0, _, by omega, by go_num, by go_num, by simpa only [List.append_assoc] using hb2, hf3, HT⟩
              case measure => simp [intOf]; omega
          
          · by_cases h226 : atL m k = 226
            · by_cases hk2 : k + 2 < n
              · have hk2m : k + 2 < m.length := by rw [← HN.out]; exact hk2
                have ck1 := HM.out (k + 1) (by omega)
                have ck2 := HM.out (k + 2) hk2m
                rw [Nat.zero_add] at ck1 ck2
                by_cases h128 : atL m (k + 1) = 128
                · by_cases h168 : atL m (k + 2) = 168
                  · have hst := (hI.out.two hk2m 168 _ h226 h128 (by rw [h168]; rfl) (.inl ⟨rfl, rfl⟩)).1
                    have HT : Hid (HInv m (k + 1) (k + 3) (out ++ (m.drop st).take (k - st) ++ [92, 117, 50, 48, 50, 56]) 2) := (hI.out.two hk2m 168 _ h226 h128 (by rw [h168]; rfl) (.inl ⟨rfl, rfl⟩)).2
                    have hlen : Hid ((l ++ out).length + (k - st) + 6 ≤ 140737488355328) := by
                      have h1 := HSZ.out; have h2 := HT.out.bound; simp at h2; show _ ≤ _; simp; omega
                    rw [h226] at ck
                    rw [h128] at ck1
                    rw [h168] at ck2
                    have hd2 := Lib.hid h168
                    clear h168 h226 h128
                    have e15 : bits BinOp.and IntKind.u8 168 15 = 8 := by decide
                    have e1 : bits BinOp.andNot IntKind.u8 168 1 = 168 := by decide
                    have hiB : ∀ h, ((((⟨#[48, 49, 50, 51, 52, 53, 54, 55, 56, 57, 97, 98, 99, 100, 101, 102]⟩ : ByteArray)[8]'h).toNat : Nat) : Int) = 56 := fun _ => rfl
                    go_wp2_with (at_builtin; refine wpList_append_buf rfl (.tmp 68) (.tmp 72) 56 rfl base G u0 (l ++ out) rfl hb _ _ rfl (src_part HM.out st k (cap - st) hst (Nat.le_of_lt hkm)) ?c1 (Nat.le_trans hbase hf.size) hG ?_)
                    case c1 => have := hlen.out; simp at this ⊢; omega
                    intro v1 w1 hb1 hg1 hf1 _
                    have hf' := hf.trans hf1
                    have ck2' := (hm.fr hf' hg hgG) (k + 2) hk2m
                    rw [Nat.zero_add] at ck2'; rw [hd2.out] at ck2'
                    clear hb hg1 hf1
                    go_wp2_with (at_builtin; refine wpList_append_buf rfl (.tmp 74) (.tmp 82) 56 rfl base G v1 _ rfl (hb1.alloc _) _ [92, 117, 50, 48, 50, 56] rfl (Src.slice _ 0 6 [92, 117, 50, 48, 50, 56] (bytes_new w1 _ _)) ?c1 ?c2 hG ?_)
                    case c1 => have := hlen.out; simp at this ⊢; omega
                    case c2 => have := hbase; have := hf'.size; simp; omega
                    · intro v2 w2 hb2 hg2 hf2 _
                      have hf3 := Fr.trans (hf'.alloc _ hbase hG) hf2
                      clear hf2 hg2 hf' hf hb1
                      go_wp2
                      go_roundw
                      case rel => exact ⟨k + 1, k + 3, 2, _, by omega, by go_num, by go_num, by simpa only [List.append_assoc] using hb2, hf3, HT⟩
                      case measure => simp [intOf]; omega
                  
                  · by_cases h169 : atL m (k + 2) = 169
                    · have hst := (hI.out.two hk2m 169 _ h226 h128 (by rw [h169]; rfl) (.inr ⟨rfl, rfl⟩)).1
                      have HT : Hid (HInv m (k + 1) (k + 3) (out ++ (m.drop st).take (k - st) ++ [92, 117, 50, 48, 50, 57]) 2) := (hI.out.two hk2m 169 _ h226 h128 (by rw [h169]; rfl) (.inr ⟨rfl, rfl⟩)).2
                      have hlen : Hid ((l ++ out).length + (k - st) + 6 ≤ 140737488355328) := by
                        have h1 := HSZ.out; have h2 := HT.out.bound; simp at h2; show _ ≤ _; simp; omega
                      rw [h226] at ck
                      rw [h128] at ck1
                      rw [h169] at ck2
                      have hd2 := Lib.hid h169
                      clear h169 h226 h128
                      have e15 : bits BinOp.and IntKind.u8 169 15 = 9 := by decide
                      have e1 : bits BinOp.andNot IntKind.u8 169 1 = 168 := by decide
                      have hiB : ∀ h, ((((⟨#[48, 49, 50, 51, 52, 53, 54, 55, 56, 57, 97, 98, 99, 100, 101, 102]⟩ : ByteArray)[9]'h).toNat : Nat) : Int) = 57 := fun _ => rfl
                      go_wp2_with (at_builtin; refine wpList_append_buf rfl (.tmp 68) (.tmp 72) 56 rfl base G u0 (l ++ out) rfl hb _ _ rfl (src_part HM.out st k (cap - st) hst (Nat.le_of_lt hkm)) ?c1 (Nat.le_trans hbase hf.size) hG ?_)
                      case c1 => have := hlen.out; simp at this ⊢; omega
                      intro v1 w1 hb1 hg1 hf1 _
                      have hf' := hf.trans hf1
                      have ck2' := (hm.fr hf' hg hgG) (k + 2) hk2m
                      rw [Nat.zero_add] at ck2'; rw [hd2.out] at ck2'
                      clear hb hg1 hf1
                      go_wp2_with (at_builtin; refine wpList_append_buf rfl (.tmp 74) (.tmp 82) 56 rfl base G v1 _ rfl (hb1.alloc _) _ [92, 117, 50, 48, 50, 57] rfl (Src.slice _ 0 6 [92, 117, 50, 48, 50, 57] (bytes_new w1 _ _)) ?c1 ?c2 hG ?_)
                      case c1 => have := hlen.out; simp at this ⊢; omega
                      case c2 => have := hbase; have := hf'.size; simp; omega
                      · intro v2 w2 hb2 hg2 hf2 _
                        have hf3 := Fr.trans (hf'.alloc _ hbase hG) hf2
                        clear hf2 hg2 hf' hf hb1
                        go_wp2
                        go_roundw
                        case rel => exact ⟨k + 1, k + 3, 2, _, by omega, by go_num, by go_num, by simpa only [List.append_assoc] using hb2, hf3, HT⟩
                        case measure => simp [intOf]; omega
                    
                    · have HT := Lib.hid (hI.out.plain hkm h60 h62 h38 (fun q => q.2.2.2.elim h168 h169))
                      have e1 : (bits BinOp.andNot IntKind.u8 (atL m (k + 2)) 1 == 168) = false := andNot_no _ (atL_range m (k + 2)) h168 h169
                      rw [h226] at ck
                      rw [h128] at ck1
                      generalize atL m (k + 2) = d at ck2 e1
                      clear h226 h128 h168 h169 h60 h62 h38
                      go_wp2
                      go_roundw
                      case rel => exact ⟨k + 1, st, s - 1, out, by omega, by go_num, rfl, hb, hf, HT⟩
                      case measure => simp [intOf]; omega
                      
                · have HT := Lib.hid (hI.out.plain hkm h60 h62 h38 (fun q => h128 q.2.2.1))
                  have e1 : (atL m (k + 1) == 128) = false := by simpa using h128
                  rw [h226] at ck
                  generalize atL m (k + 1) = d at ck1 e1
                  clear h226 h128 h60 h62 h38
                  go_wp2
                  go_roundw
                  case rel => exact ⟨k + 1, st, s - 1, out, by omega, by go_num, rfl, hb, hf, HT⟩
                  case measure => simp [intOf]; omega
                  
              · have HT := Lib.hid (hI.out.plain hkm h60 h62 h38 (fun q => hk2 (by have := HN.out; omega)))
                rw [h226] at ck
                clear h226 h60 h62 h38
                go_wp2
                go_roundw
                case rel => exact ⟨k + 1, st, s - 1, out, by omega, by go_num, rfl, hb, hf, HT⟩
                case measure => simp [intOf]; omega
                
            · have HT := Lib.hid (hI.out.plain hkm h60 h62 h38 (fun q => h226 q.1))
              have e1 : (atL m k == 60) = false := by simpa using h60
              have e2 : (atL m k == 62) = false := by simpa using h62
              have e3 : (atL m k == 38) = false := by simpa using h38
              have e4 : (atL m k == 226) = false := by simpa using h226
              generalize atL m k = c at ck e1 e2 e3 e4
              clear h226 h60 h62 h38
              go_wp2
              go_roundw
              case rel => exact ⟨k + 1, st, s - 1, out, by omega, by go_num, rfl, hb, hf, HT⟩
              case measure => simp [intOf]; omega
              
    · have hkn' : k = n := by omega
      subst hkn'
      have hstl := hI.out.stl
      have hstk : st ≤ k := by rw [HN.out]; exact hstl
      have hkl : k ≤ m.length := by rw [HN.out]; exact Nat.le_refl _
      have hmr := hm.fr hf hg hgG
      have hL : L = l ++ out ++ (m.drop st).take (k - st) := by
        have h1 := HL.out; have h2 := hI.out; rw [HN.out] at h2; rw [h1, h2.fin, List.append_assoc, HN.out, List.take_of_length_le (by simp)]
      have hlen : Hid ((l ++ out).length + (k - st) ≤ 140737488355328) := by
        have h1 := HSZ.out
        have h2 := congrArg List.length hL
        have h3 := congrArg List.length HL.out
        have h4 := escF_length m 0
        simp only [List.length_append, List.length_take, List.length_drop] at h2 h3
        show _ ≤ _
        rw [List.length_append]
        have := HN.out
        omega
      have HL2 := Lib.hid hL
      clear hL hstl hkn
      by_cases hcs : cap = st
      · have hks : k - st = 0 := by omega
        rw [hks, List.take_zero, List.append_nil] at HL2
        rw [hks] at hlen
        go_wp2_with (at_builtin; refine wpList_append_buf rfl (.tmp 87) (.tmp 90) 56 rfl base G u0 (l ++ out) rfl hb _ _ rfl (Src.slice g 0 _ [] (fun j hj => absurd hj (Nat.not_lt_zero _))) ?c1 (Nat.le_trans hbase hf.size) hG ?_)
        case c1 => have := hlen.out; simp at this ⊢; omega
        intro v1 w1 hb1 hg1 hf1 _
        have hf' := hf.trans hf1
        have hb1 : Buf w1 base G v1 L := by rw [HL2.out]; simpa only [List.append_assoc] using hb1
        clear hb hg1 hf1 hf
        go_wp2
        go_ret
        exact ⟨v1, rfl, hb1, hf'⟩
      · have hcs' : st < cap := by omega
        go_wp2_with (at_builtin; refine wpList_append_buf rfl (.tmp 87) (.tmp 90) 56 rfl base G u0 (l ++ out) rfl hb _ _ rfl (src_part hmr st k (cap - st) hstk hkl) ?c1 (Nat.le_trans hbase hf.size) hG ?_)
        case c1 => have := hlen.out; simp at this ⊢; omega
        intro v1 w1 hb1 hg1 hf1 _
        have hf' := hf.trans hf1
        have hb1 : Buf w1 base G v1 L := by rw [HL2.out]; simpa only [List.append_assoc] using hb1
        clear hb hg1 hf1 hf
        go_wp2
        go_ret
        exact ⟨v1, rfl, hb1, hf'⟩
end Go.Proofs.YtklncgmfbflooaaDoor
