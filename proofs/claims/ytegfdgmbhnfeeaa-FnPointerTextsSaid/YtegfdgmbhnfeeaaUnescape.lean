/- A token of a pointer, read: zzIndex, zzContains, zzReplaceAll and unescapePointerToken, walked; and what they do to an escaped token. -/
import Derived.Test.YtegfdgmbhnfeeaaBuf
import Derived.Test.YtegfdgmbhnfeeaaPtrPlain
import Derived.WalkLawsBesides
import Derived.Lib.Hide
import Derived.Lib.Strings
namespace Go.Proofs.Ytegfdgmbhnfeeaa
open Go.RowKit
/-- Each a b becomes c, from the left. -/
def rp (a b c : UInt8) : List UInt8 → List UInt8
  | x :: y :: r => if x = a ∧ y = b then c :: rp a b c r else x :: rp a b c (y :: r)
  | l => l
theorem rp_nil (a b c : UInt8) : rp a b c [] = [] := by rw [rp]; intro x y r e; cases e
theorem rp_one (a b c x : UInt8) : rp a b c [x] = [x] := by rw [rp]; intro x y r e; cases e
/-- The pair stands at place k. -/
def M (a b : UInt8) (l : List UInt8) (k : Nat) : Prop := l[k]? = some a ∧ l[k + 1]? = some b
theorem rp_none (a b c : UInt8) : ∀ l : List UInt8, (∀ k, ¬ M a b l k) → rp a b c l = l
  | [], _ => rp_nil a b c
  | [x], _ => rp_one a b c x
  | x :: y :: r, h => by
    have h0 : ¬ (x = a ∧ y = b) := fun e => h 0 ⟨by simp [e.1], by simp [e.2]⟩
    rw [rp, if_neg h0, rp_none a b c (y :: r) (fun k q => h (k + 1) ⟨by simpa using q.1, by simpa using q.2⟩)]
theorem rp_at (a b c : UInt8) : ∀ (l : List UInt8) (k : Nat), M a b l k → (∀ j, j < k → ¬ M a b l j) → rp a b c l = l.take k ++ c :: rp a b c (l.drop (k + 2))
  | [], k, h, _ => by have := h.1; simp at this
  | [x], k, h, _ => by have := h.2; simp at this
  | x :: y :: r, 0, h, _ => by
    have h1 := h.1
    have h2 := h.2
    simp at h1 h2
    rw [rp, if_pos ⟨h1, h2⟩]; simp
  | x :: y :: r, k + 1, h, hn => by
    have h0 : ¬ (x = a ∧ y = b) := fun e => hn 0 (by omega) ⟨by simp [e.1], by simp [e.2]⟩
    rw [rp, if_neg h0, rp_at a b c (y :: r) k ⟨by simpa using h.1, by simpa using h.2⟩ (fun j hj q => hn (j + 1) (by omega) ⟨by simpa using q.1, by simpa using q.2⟩)]
    simp
theorem rp_le (a b c : UInt8) : ∀ l : List UInt8, (rp a b c l).length ≤ l.length
  | [] => by rw [rp_nil]; exact Nat.le_refl _
  | [x] => by rw [rp_one]; exact Nat.le_refl _
  | x :: y :: r => by
    have h1 := rp_le a b c r
    have h2 := rp_le a b c (y :: r)
    rw [rp]
    split
    · simp; omega
    · simp only [List.length_cons] at h2 ⊢; omega
def two (a b : UInt8) : ByteArray := ⟨#[a, b]⟩
theorem ext_two (s : ByteArray) (a b : UInt8) (k : Nat) : (k + 2 ≤ s.size ∧ s.extract k (k + 2) = two a b) ↔ M a b s.data.toList k := by
  constructor
  · rintro ⟨h, e⟩
    have e1 := congrArg (fun x : ByteArray => x.data.toList) e
    simp only [Lib.extract_data, two] at e1
    have hl : s.data.toList.length = s.size := by simp
    have d1 : s.data.toList.drop k = s.data.toList[k]'(by omega) :: s.data.toList.drop (k + 1) := List.drop_eq_getElem_cons (by omega)
    have d2 : s.data.toList.drop (k + 1) = s.data.toList[k + 1]'(by omega) :: s.data.toList.drop (k + 2) := List.drop_eq_getElem_cons (by omega)
    rw [show k + 2 - k = 2 by omega, d1, d2] at e1
    simp only [List.take_succ_cons, List.take_zero, List.cons.injEq, and_true] at e1
    exact ⟨by rw [List.getElem?_eq_getElem (by omega), e1.1], by rw [List.getElem?_eq_getElem (by omega), e1.2]⟩
  · rintro ⟨h1, h2⟩
    have hl : s.data.toList.length = s.size := by simp
    have hk : k + 1 < s.data.toList.length := by
      rcases Nat.lt_or_ge (k + 1) s.data.toList.length with h | h
      · exact h
      · rw [List.getElem?_eq_none h] at h2; cases h2
    rw [List.getElem?_eq_getElem (by omega)] at h1 h2
    refine ⟨by omega, ?_⟩
    apply ByteArray.ext
    apply Array.ext'
    have d1 : s.data.toList.drop k = s.data.toList[k]'(by omega) :: s.data.toList.drop (k + 1) := List.drop_eq_getElem_cons (by omega)
    have d2 : s.data.toList.drop (k + 1) = s.data.toList[k + 1]'(by omega) :: s.data.toList.drop (k + 2) := List.drop_eq_getElem_cons (by omega)
    rw [Lib.extract_data, show k + 2 - k = 2 by omega, d1, d2, Option.some.inj h1, Option.some.inj h2]
    simp only [List.take_succ_cons, List.take_zero]
    rfl
/-- What zzIndex tells. -/
def IxPost (s p : ByteArray) (w : World) (e : Ending) (w' : World) : Prop :=
  w = w' ∧ ((e = .returned (.int .i64 (-1)) ∧ ∀ k, k + p.size ≤ s.size → ¬ s.extract k (k + p.size) = p) ∨
    ∃ k : Nat, e = .returned (.int .i64 k) ∧ k + p.size ≤ s.size ∧ s.extract k (k + p.size) = p ∧ ∀ j, j < k → ¬ s.extract j (j + p.size) = p)
theorem zzIndex (s p : ByteArray) (w : World) (hs : s.size ≤ 2147483647) (hp : p.size ≤ 4) :
    Calls Try.prog 54 #[.string s, .string p] w (IxPost s p w) := by
  go_enter Try.func54, Try.ntmps54
  go_wp2
  go_loop [5] (fun i => ∃ k : Nat, k ≤ s.size + 1 ∧ i = .int .i64 k ∧ Hid (∀ j, j < k → ¬ s.extract j (j + p.size) = p)) (fun i => s.size + 1 - (intOf i).toNat)
  case atStart => exact ⟨0, Nat.zero_le _, rfl, fun j h => absurd h (Nat.not_lt_zero _)⟩
  case round =>
    obtain ⟨k, hk, rfl, hT⟩ := hrel
    by_cases hkl : k + p.size ≤ s.size
    · have e1 : decide ((k : Int) + (p.size : Int) ≤ (s.size : Int)) = true := by simp; omega
      by_cases hm : s.extract k (k + p.size) = p
      · have e3 : ((s.extract k (k + p.size)).toList == p.toList) = true := by rw [hm]; simp
        have HM := Lib.hid hm
        clear hm
        go_wp2
        go_ret
        exact ⟨rfl, .inr ⟨k, rfl, hkl, HM.out, hT.out⟩⟩
      · have e3 : ((s.extract k (k + p.size)).toList == p.toList) = false := by
          rw [beq_eq_false_iff_ne]; intro e; rw [ByteArray.toList_eq, ByteArray.toList_eq] at e; exact hm (ByteArray.ext (Array.ext' e))
        have HM : Hid (∀ j, j < k + 1 → ¬ s.extract j (j + p.size) = p) := fun j hj => by
          by_cases h : j = k
          · subst h; exact hm
          · exact hT.out j (by omega)
        clear hm
        go_wp2
        go_round
        case rel => exact ⟨k + 1, by omega, by go_num, HM⟩
        case measure => simp [intOf]; omega
    · have e1 : decide ((k : Int) + (p.size : Int) ≤ (s.size : Int)) = false := by simp; omega
      have HF : Hid (∀ j, j + p.size ≤ s.size → ¬ s.extract j (j + p.size) = p) := fun j hj => hT.out j (by omega)
      go_wp2
      go_ret
      exact ⟨rfl, .inl ⟨rfl, HF.out⟩⟩
def hasT (l : List UInt8) : Bool := l.contains 126
def tildeS : ByteArray := ⟨#[126]⟩
theorem zzContainsTilde (s : ByteArray) (w : World) (hs : s.size ≤ 2147483647) :
    Calls Try.prog 48 #[.string s, .string ⟨#[126]⟩] w fun e w' => e = .returned (.bool (hasT s.data.toList)) ∧ w = w' := by
  have hc := zzIndex s ⟨#[126]⟩ w hs (by decide)
  have hp : (⟨#[126]⟩ : ByteArray).size = 1 := rfl
  have hone : ∀ k, k + 1 ≤ s.size → (s.extract k (k + 1) = (⟨#[126]⟩ : ByteArray) ↔ s.data.toList[k]? = some 126) := fun k hk => by
    have hl : s.data.toList.length = s.size := by simp
    have d1 : s.data.toList.drop k = s.data.toList[k]'(by omega) :: s.data.toList.drop (k + 1) := List.drop_eq_getElem_cons (by omega)
    rw [List.getElem?_eq_getElem (by omega)]
    constructor
    · intro e
      have e1 := congrArg (fun x : ByteArray => x.data.toList) e
      simp only [Lib.extract_data] at e1
      rw [show k + 1 - k = 1 by omega, d1] at e1
      simp only [List.take_succ_cons, List.take_zero, List.cons.injEq, and_true] at e1
      rw [e1]
    · intro e
      apply ByteArray.ext
      apply Array.ext'
      rw [Lib.extract_data, show k + 1 - k = 1 by omega, d1, Option.some.inj e]
      simp only [List.take_succ_cons, List.take_zero]
  have hyes : ∀ k, k + 1 ≤ s.size → s.extract k (k + 1) = (⟨#[126]⟩ : ByteArray) → hasT s.data.toList = true := fun k hk e => by
    have := (hone k hk).1 e
    unfold hasT
    rw [List.contains_iff_mem]
    exact List.mem_of_getElem? this
  have hno : (∀ k, k + 1 ≤ s.size → ¬ s.extract k (k + 1) = (⟨#[126]⟩ : ByteArray)) → hasT s.data.toList = false := fun h => by
    unfold hasT
    rw [Bool.eq_false_iff]
    intro q
    rw [List.contains_iff_mem] at q
    obtain ⟨k, hk, e⟩ := List.getElem_of_mem q
    have hl : s.data.toList.length = s.size := by simp
    exact h k (by omega) ((hone k (by omega)).2 (by rw [List.getElem?_eq_getElem hk, e]))
  generalize hasT s.data.toList = b at hyes hno ⊢
  have HY := Lib.hid hyes
  have HN := Lib.hid hno
  clear hyes hno hone
  go_enter Try.func48, Try.ntmps48
  go_wp2_with fail
  refine hc.mono ?_
  rintro e w' ⟨rfl, h⟩
  clear hc
  rcases h with ⟨rfl, h⟩ | ⟨k, rfl, h1, h2, _⟩
  · have hb := HN.out h
    subst hb
    go_wp2
    go_ret
    exact ⟨rfl, rfl⟩
  · have hb := HY.out k h1 h2
    subst hb
    have e1 : decide ((0 : Int) ≤ (k : Int)) = true := by simp
    clear h1 h2
    go_wp2
    go_ret
    exact ⟨rfl, rfl⟩
theorem ex_take (s : ByteArray) (k : Nat) : (s.extract 0 k).data.toList = s.data.toList.take k := by rw [Lib.extract_data]; simp
theorem ex_drop (s : ByteArray) (k : Nat) : (s.extract k s.size).data.toList = s.data.toList.drop k := by
  rw [Lib.extract_data]; apply List.take_of_length_le; simp
def ReplPost (L : List UInt8) (w : World) (e : Ending) (w' : World) : Prop := e = .returned (.string ⟨L.toArray⟩) ∧ Below w.heap.size w w'
set_option maxHeartbeats 1000000 in
theorem zzReplaceAll (s : ByteArray) (a b c : UInt8) (w : World) (hs : s.size ≤ 2147483647) :
    Calls Try.prog 49 #[.string s, .string (two a b), .string ⟨#[c]⟩] w (ReplPost (rp a b c s.data.toList) w) := by
  have hix := fun (t : ByteArray) W (h : t.size ≤ 2147483647) => zzIndex t (two a b) W h (by show 2 ≤ 4; omega)
  have h2 : (two a b).size = 2 := rfl
  have hone : (⟨#[c]⟩ : ByteArray).data.toList = [c] := rfl
  have hnone : ∀ t : ByteArray, (∀ k, k + 2 ≤ t.size → ¬ t.extract k (k + 2) = two a b) → rp a b c t.data.toList = t.data.toList := fun t h =>
    rp_none a b c _ fun k q => h k ((ext_two t a b k).2 q).1 ((ext_two t a b k).2 q).2
  have hat : ∀ (t : ByteArray) (k : Nat), k + 2 ≤ t.size → t.extract k (k + 2) = two a b → (∀ j, j < k → ¬ t.extract j (j + 2) = two a b) → rp a b c t.data.toList = t.data.toList.take k ++ c :: rp a b c (t.extract (k + 2) t.size).data.toList := fun t k h1 h2 h3 => by
    rw [ex_drop]
    exact rp_at a b c _ k ((ext_two t a b k).1 ⟨h1, h2⟩) fun j hj q => h3 j hj ((ext_two t a b j).2 q).2
  have hle := rp_le a b c s.data.toList
  rw [size_list] at hle
  obtain ⟨R, hR⟩ : ∃ R, R = rp a b c s.data.toList := ⟨_, rfl⟩
  rw [← hR] at hle ⊢
  have HIX := Lib.hid hix
  have HNONE := Lib.hid hnone
  have HAT := Lib.hid hat
  have HR : Hid ([] ++ rp a b c s.data.toList = R) := hR.symm
  have HLE := Lib.hid hle
  clear hix hnone hat hR hle
  generalize hp : two a b = P at *
  clear hp
  go_enter Try.func49, Try.ntmps49
  go_wp2
  go_loopw [0, 7] (fun t v wr => ∃ (r : ByteArray) (out : List UInt8), t = .string r ∧ r.size ≤ s.size ∧ Buf wr w.heap.size none v out ∧ Fr w.heap.size none w wr ∧ Hid (out ++ rp a b c r.data.toList = R)) (fun t _ _ => match t with | .string r => r.size | _ => 0)
  case atStart => exact ⟨s, [], rfl, Nat.le_refl _, Buf.nil _ _ _, Fr.refl _ _ _, HR⟩
  case round =>
    obtain ⟨r, out, rfl, hrs, hb, hf, hT⟩ := hrel
    have hlo : Hid (out.length + r.size ≤ 140737488355328) := by
      have h1 := congrArg List.length hT.out
      have h2 := HLE.out
      simp only [List.length_append] at h1
      show _ ≤ _
      omega
    go_wp2_with fail
    refine (HIX.out r _ (by omega)).mono ?_
    rintro e w' ⟨rfl, h⟩
    rcases h with ⟨rfl, h⟩ | ⟨k, rfl, h1, h2', h3⟩
    · rw [h2] at h
      have hRR : Hid (out ++ r.data.toList = R) := by have := hT.out; rw [HNONE.out r h] at this; exact this
      clear h
      go_wp2_with (at_builtin; refine wpList_append_buf rfl (.tmp 14) (.tmp 15) 9 rfl w.heap.size none u7 out rfl hb _ _ rfl (Src.text r) ?c1 hf.size (fun _ _ e => by cases e) ?_)
      case c1 => rw [size_list]; exact hlo.out
      intro v1 w1 hb1 hg1 hf1 _
      have hf' := hf.trans hf1
      rw [hRR.out] at hb1
      have htx := hb1.text
      have hbel := hf'.below
      clear hb hg1 hf1 hf hb1 hf'
      go_wp2
      go_ret
      exact ⟨rfl, hbel⟩
    · rw [h2] at h1 h2' h3
      have hRR : Hid (out ++ (r.data.toList.take k ++ [c]) ++ rp a b c (r.extract (k + 2) r.size).data.toList = R) := by
        have := hT.out; rw [HAT.out r k h1 h2' h3] at this; show _ = _; rw [← this]; simp
      clear h2' h3
      have hl0 : (r.extract 0 k).data.toList.length = k := by rw [ex_take]; simp; omega
      go_wp2_with (at_builtin; refine wpList_append_buf rfl (.tmp 18) (.tmp 21) 9 rfl w.heap.size none u7 out rfl hb _ _ rfl (Src.text (r.extract 0 k)) ?c1 hf.size (fun _ _ e => by cases e) ?_)
      case c1 => rw [hl0]; have := hlo.out; omega
      intro v1 w1 hb1 hg1 hf1 _
      have hf' := hf.trans hf1
      clear hb hg1 hf1 hf
      go_wp2_with (at_builtin; refine wpList_append_buf rfl (.tmp 22) (.tmp 23) 9 rfl w.heap.size none v1 _ rfl hb1 _ _ rfl (Src.text ⟨#[c]⟩) ?c1 hf'.size (fun _ _ e => by cases e) ?_)
      case c1 => have := hlo.out; simp; omega
      intro v2 w2 hb2 hg2 hf2 _
      have hf3 := hf'.trans hf2
      clear hb1 hg2 hf2 hf'
      go_wp2
      go_roundw
      case rel => exact ⟨r.extract (k + 2) r.size, _, rfl, by simp; omega, hb2, hf3, hRR⟩
      case measure => simp; omega
/-- A token, read. -/
def uq (l : List UInt8) : List UInt8 := if hasT l then rp 126 48 126 (rp 126 49 47 l) else l
set_option maxHeartbeats 1000000 in
theorem unescape (s : ByteArray) (w : World) (hs : s.size ≤ 2147483647) :
    Calls Try.prog 40 #[.string s] w (ReplPost (uq s.data.toList) w) := by
  have hc := fun W => zzContainsTilde s W hs
  unfold uq
  cases hh : hasT s.data.toList
  · rw [hh] at hc
    have hself : (⟨s.data.toList.toArray⟩ : ByteArray) = s := by cases s; simp
    rw [if_neg (by simp)]
    unfold ReplPost
    rw [hself]
    clear hh hself
    go_enter Try.func40, Try.ntmps40
    go_wp2_with fail
    refine (hc _).mono ?_
    rintro e w' ⟨rfl, rfl⟩
    clear hc
    go_wp2
    go_ret
    exact ⟨rfl, Below.refl _ _⟩
  · rw [hh] at hc
    rw [if_pos rfl]
    have h1 := fun W => zzReplaceAll s 126 49 47 W hs
    have hle := rp_le 126 49 47 s.data.toList
    rw [size_list] at hle
    have hsz : (⟨(rp 126 49 47 s.data.toList).toArray⟩ : ByteArray).size ≤ 2147483647 := by
      have : (⟨(rp 126 49 47 s.data.toList).toArray⟩ : ByteArray).size = (rp 126 49 47 s.data.toList).length := by simp [ByteArray.size]
      omega
    have h2 := fun W => zzReplaceAll ⟨(rp 126 49 47 s.data.toList).toArray⟩ 126 48 126 W hsz
    have e1 : (⟨(rp 126 49 47 s.data.toList).toArray⟩ : ByteArray).data.toList = rp 126 49 47 s.data.toList := rfl
    rw [e1] at h2
    have t1 : two 126 49 = ⟨#[126, 49]⟩ := rfl
    have t2 : two 126 48 = ⟨#[126, 48]⟩ := rfl
    rw [t1] at h1
    rw [t2] at h2
    generalize rp 126 48 126 (rp 126 49 47 s.data.toList) = R at h2 ⊢
    generalize rp 126 49 47 s.data.toList = Q at h1 h2
    clear hh hle hsz e1 t1 t2
    go_enter Try.func40, Try.ntmps40
    go_wp2_with fail
    refine (hc _).mono ?_
    rintro e w' ⟨rfl, rfl⟩
    clear hc
    go_wp2_with fail
    refine (h1 _).mono ?_
    rintro e w1 ⟨rfl, hb1⟩
    clear h1
    go_wp2_with fail
    refine (h2 _).mono ?_
    rintro e w2 ⟨rfl, hb2⟩
    clear h2
    go_wp2
    go_ret
    exact ⟨rfl, hb1.trans (hb2.mono hb1.size)⟩
/-- With the slashes back, the tildes not yet. -/
def esc1 (t : List UInt8) : List UInt8 := t.flatMap fun c => if c = 126 then [126, 48] else [c]
theorem rp_skip (a b c x : UInt8) (r : List UInt8) (h : ¬ x = a) : rp a b c (x :: r) = x :: rp a b c r := by
  cases r with
  | nil => rw [rp_one, rp_nil]
  | cons y r => rw [rp, if_neg (fun q => h q.1)]
theorem rp_esc : ∀ t : List UInt8, rp 126 49 47 (esc t) = esc1 t
  | [] => rp_nil _ _ _
  | x :: t => by
    have ih := rp_esc t
    have e1 : esc (x :: t) = (if x = 126 then [126, 48] else if x = 47 then [126, 49] else [x]) ++ esc t := by simp [esc]
    have e2 : esc1 (x :: t) = (if x = 126 then [126, 48] else [x]) ++ esc1 t := by simp [esc1]
    rw [e1, e2]
    by_cases h : x = 126
    · subst h
      rw [if_pos rfl, if_pos rfl]
      show rp 126 49 47 (126 :: 48 :: esc t) = _
      rw [rp, if_neg (by decide), rp_skip _ _ _ _ _ (by decide), ih]; rfl
    · rw [if_neg h, if_neg h]
      by_cases h2 : x = 47
      · subst h2
        rw [if_pos rfl]
        show rp 126 49 47 (126 :: 49 :: esc t) = _
        rw [rp, if_pos (by decide), ih]; rfl
      · rw [if_neg h2]
        show rp 126 49 47 (x :: esc t) = x :: esc1 t
        rw [rp_skip _ _ _ _ _ h, ih]
theorem rp_esc1 : ∀ t : List UInt8, rp 126 48 126 (esc1 t) = t
  | [] => rp_nil _ _ _
  | x :: t => by
    have ih := rp_esc1 t
    have e2 : esc1 (x :: t) = (if x = 126 then [126, 48] else [x]) ++ esc1 t := by simp [esc1]
    rw [e2]
    by_cases h : x = 126
    · subst h
      rw [if_pos rfl]
      show rp 126 48 126 (126 :: 48 :: esc1 t) = _
      rw [rp, if_pos (by decide), ih]
    · rw [if_neg h]
      show rp 126 48 126 (x :: esc1 t) = _
      rw [rp_skip _ _ _ _ _ h, ih]
theorem esc_plain : ∀ t : List UInt8, hasT (esc t) = false → esc t = t
  | [], _ => rfl
  | x :: t, h => by
    have e1 : esc (x :: t) = (if x = 126 then [126, 48] else if x = 47 then [126, 49] else [x]) ++ esc t := by simp [esc]
    rw [e1] at h ⊢
    by_cases h1 : x = 126
    · rw [if_pos h1] at h; simp [hasT] at h
    · rw [if_neg h1] at h ⊢
      by_cases h2 : x = 47
      · rw [if_pos h2] at h; simp [hasT] at h
      · rw [if_neg h2] at h ⊢
        have : hasT (esc t) = false := by simp [hasT] at h ⊢; exact h.2
        rw [esc_plain t this]; rfl
/-- An escaped token is read as it was. -/
theorem uq_esc (t : List UInt8) : uq (esc t) = t := by
  unfold uq
  cases h : hasT (esc t)
  · rw [if_neg (by simp)]; exact esc_plain t h
  · rw [if_pos rfl, rp_esc, rp_esc1]
end Go.Proofs.Ytegfdgmbhnfeeaa
