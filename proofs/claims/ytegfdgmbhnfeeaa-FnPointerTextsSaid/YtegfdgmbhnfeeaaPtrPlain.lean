/- Plain words on JSON pointers as lists of bytes, of no program. -/
import Derived.Test.YtegfdgmbhnfeeaaPlain
namespace Go.Proofs.Ytegfdgmbhnfeeaa
open Go.RowKit

/-- Place i holds no tilde, or one with 0 or 1 behind it. -/
def tlAt (l : List UInt8) (i : Nat) : Prop := atL l i = 126 → i + 1 < l.length ∧ (atL l (i + 1) = 48 ∨ atL l (i + 1) = 49)
instance (l : List UInt8) (i : Nat) : Decidable (tlAt l i) := by unfold tlAt; infer_instance
def hd (l : List UInt8) : Bool := l.isEmpty || atL l 0 == 47
def tl (l : List UInt8) : Bool := decide (∀ i, i < l.length → tlAt l i)
/-- A valid pointer. -/
def pv (l : List UInt8) : Bool := isTxt l && hd l && tl l
theorem pv_false1 (l : List UInt8) (h : isTxt l = false) : pv l = false := by simp [pv, h]
theorem pv_false2 (l : List UInt8) (h : 0 < l.length) (h0 : ¬ atL l 0 = 47) : pv l = false := by
  cases l with
  | nil => simp at h
  | cons c r => simp [pv, hd, h0]
theorem pv_false3 (l : List UInt8) (i : Nat) (hi : i < l.length) (h : ¬ tlAt l i) : pv l = false := by
  have : tl l = false := by
    unfold tl
    rw [decide_eq_false_iff_not]
    exact fun q => h (q i hi)
  simp [pv, this]
theorem pv_true (l : List UInt8) (h : isTxt l = true) (h0 : l.length = 0 ∨ atL l 0 = 47) (ht : ∀ i, i < l.length → tlAt l i) : pv l = true := by
  have : tl l = true := by unfold tl; rw [decide_eq_true_iff]; exact ht
  have h1 : hd l = true := by
    unfold hd
    rcases h0 with h0 | h0
    · rw [List.eq_nil_of_length_eq_zero h0]; rfl
    · rw [h0]; simp
  simp [pv, this, h, h1]

/-- A byte more in the last token. -/
def addLast (out : List (List UInt8)) (t : List UInt8) : List (List UInt8) := out.dropLast ++ [out.getLast?.getD [] ++ t]
/-- The tokens of what is left, behind those that there are. -/
def tk : List UInt8 → List (List UInt8) → List (List UInt8)
  | [], out => out
  | [c], out => if c = 47 then out ++ [[]] else if c = 126 then addLast out [] else addLast out [c]
  | c :: d :: r, out => if c = 47 then tk (d :: r) (out ++ [[]]) else if c = 126 then tk r (addLast out [if d = 48 then 126 else 47]) else tk (d :: r) (addLast out [c])
theorem tk_nil (out : List (List UInt8)) : tk [] out = out := by rw [tk]
theorem tk_slash (r : List UInt8) (out : List (List UInt8)) : tk (47 :: r) out = tk r (out ++ [[]]) := by
  cases r with
  | nil => simp [tk]
  | cons d r => rw [tk, if_pos rfl]
theorem tk_plain (c : UInt8) (r : List UInt8) (out : List (List UInt8)) (h : ¬ c = 47) (h' : ¬ c = 126) : tk (c :: r) out = tk r (addLast out [c]) := by
  cases r with
  | nil => simp [tk, h, h']
  | cons d r => rw [tk, if_neg h, if_neg h']
theorem tk_tilde (d : UInt8) (r : List UInt8) (out : List (List UInt8)) : tk (126 :: d :: r) out = tk r (addLast out [if d = 48 then 126 else 47]) := by
  rw [tk, if_neg (by decide), if_pos rfl]
theorem addLast_length (out : List (List UInt8)) (t : List UInt8) (h : 0 < out.length) : (addLast out t).length = out.length := by
  unfold addLast; simp; omega
theorem addLast_ne (out : List (List UInt8)) (t : List UInt8) : addLast out t ≠ [] := by unfold addLast; simp
theorem addLast_snoc (o : List (List UInt8)) (l t : List UInt8) : addLast (o ++ [l]) t = o ++ [l ++ t] := by unfold addLast; simp
theorem addLast_append (o1 o2 : List (List UInt8)) (t : List UInt8) (h : o2 ≠ []) : addLast (o1 ++ o2) t = o1 ++ addLast o2 t := by
  obtain ⟨o, l, rfl⟩ : ∃ o l, o2 = o ++ [l] := ⟨_, _, (List.dropLast_concat_getLast h).symm⟩
  rw [← List.append_assoc, addLast_snoc, addLast_snoc, List.append_assoc]

/-- Each tilde has 0 or 1 behind it. -/
def tlS : List UInt8 → Prop
  | [] => True
  | c :: r => (c = 126 → ∃ d r', r = d :: r' ∧ (d = 48 ∨ d = 49)) ∧ tlS r
theorem atL_cons (c : UInt8) (r : List UInt8) (i : Nat) : atL (c :: r) (i + 1) = atL r i := rfl
theorem atL_zero (c : UInt8) (r : List UInt8) : atL (c :: r) 0 = (c.toNat : Int) := rfl
theorem byte_eq (c d : UInt8) (h : (c.toNat : Int) = d.toNat) : c = d := by
  apply UInt8.toNat_inj.1; omega
theorem tlS_of : ∀ (l : List UInt8), (∀ i, i < l.length → tlAt l i) → tlS l
  | [], _ => trivial
  | c :: r, h => by
    refine ⟨fun hc => ?_, tlS_of r fun i hi => ?_⟩
    · have h0 := h 0 (by simp) (by rw [atL_zero, hc]; rfl)
      cases r with
      | nil => simp at h0
      | cons d r' =>
        refine ⟨d, r', rfl, ?_⟩
        rcases h0.2 with q | q
        · exact Or.inl (byte_eq d 48 q)
        · exact Or.inr (byte_eq d 49 q)
    · have := h (i + 1) (by simpa using hi)
      intro q
      have := this q
      rw [List.length_cons] at this
      exact ⟨by omega, this.2⟩
/-- What a valid pointer gives. -/
theorem pv_gives (l : List UInt8) (h : pv l = true) : tlS l ∧ (l = [] ∨ ∃ r, l = 47 :: r) := by
  unfold pv at h
  rw [Bool.and_eq_true, Bool.and_eq_true] at h
  obtain ⟨⟨_, h1⟩, h2⟩ := h
  unfold tl at h2
  rw [decide_eq_true_iff] at h2
  refine ⟨tlS_of l h2, ?_⟩
  cases l with
  | nil => exact Or.inl rfl
  | cons c r =>
    right
    have : c = 47 := by
      simp [hd] at h1
      exact byte_eq c 47 h1
    exact ⟨r, by rw [this]⟩

/-- A token as it stands in a pointer. -/
def esc (t : List UInt8) : List UInt8 := t.flatMap fun c => if c = 126 then [126, 48] else if c = 47 then [126, 49] else [c]
/-- The pointer with some tokens. -/
def ptrOf (ts : List (List UInt8)) : List UInt8 := ts.flatMap fun t => 47 :: esc t
theorem esc_append (a b : List UInt8) : esc (a ++ b) = esc a ++ esc b := by simp [esc]
theorem ptrOf_append (a b : List (List UInt8)) : ptrOf (a ++ b) = ptrOf a ++ ptrOf b := by simp [ptrOf]
theorem ptrOf_addLast (out : List (List UInt8)) (t : List UInt8) (h : out ≠ []) : ptrOf (addLast out t) = ptrOf out ++ esc t := by
  obtain ⟨o, l, rfl⟩ : ∃ o l, out = o ++ [l] := ⟨_, _, (List.dropLast_concat_getLast h).symm⟩
  rw [addLast_snoc, ptrOf_append, ptrOf_append]
  simp [ptrOf, esc_append]
/-- The tokens of a pointer give the pointer back. -/
theorem ptrOf_tk : ∀ (n : Nat) (l : List UInt8) (out : List (List UInt8)), l.length ≤ n → tlS l → (out ≠ [] ∨ l = [] ∨ ∃ r, l = 47 :: r) → ptrOf (tk l out) = ptrOf out ++ l
  | _, [], out, _, _, _ => by rw [tk_nil, List.append_nil]
  | 0, c :: r, _, hn, _, _ => by simp at hn
  | n + 1, c :: r, out, hn, hl, ho => by
    simp only [List.length_cons] at hn
    by_cases h47 : c = 47
    · subst h47
      rw [tk_slash, ptrOf_tk n r _ (by omega) hl.2 (Or.inl (by simp)), ptrOf_append]
      simp [ptrOf, esc]
    · have hne : out ≠ [] := by
        rcases ho with h | h | ⟨r', h⟩
        · exact h
        · cases h
        · cases h; exact absurd rfl h47
      by_cases h126 : c = 126
      · subst h126
        obtain ⟨d, r', rfl, hd⟩ := hl.1 rfl
        simp only [List.length_cons] at hn
        rw [tk_tilde, ptrOf_tk n r' _ (by omega) hl.2.2 (Or.inl (addLast_ne _ _)), ptrOf_addLast _ _ hne]
        rcases hd with rfl | rfl <;> simp [esc]
      · rw [tk_plain c r out h47 h126, ptrOf_tk n r _ (by omega) hl.2 (Or.inl (addLast_ne _ _)), ptrOf_addLast _ _ hne]
        simp [esc, h47, h126]
theorem tk_front : ∀ (n : Nat) (l : List UInt8) (o1 o2 : List (List UInt8)), l.length ≤ n → tlS l → (o2 ≠ [] ∨ l = [] ∨ ∃ r, l = 47 :: r) → tk l (o1 ++ o2) = o1 ++ tk l o2
  | _, [], _, _, _, _, _ => by rw [tk_nil, tk_nil]
  | 0, c :: r, _, _, hn, _, _ => by simp at hn
  | n + 1, c :: r, o1, o2, hn, hl, ho => by
    simp only [List.length_cons] at hn
    by_cases h47 : c = 47
    · subst h47
      rw [tk_slash, tk_slash, List.append_assoc, tk_front n r o1 _ (by omega) hl.2 (Or.inl (by simp))]
    · have hne : o2 ≠ [] := by
        rcases ho with h | h | ⟨r', h⟩
        · exact h
        · cases h
        · cases h; exact absurd rfl h47
      by_cases h126 : c = 126
      · subst h126
        obtain ⟨d, r', rfl, _⟩ := hl.1 rfl
        simp only [List.length_cons] at hn
        rw [tk_tilde, tk_tilde, addLast_append _ _ _ hne, tk_front n r' o1 _ (by omega) hl.2.2 (Or.inl (addLast_ne _ _))]
      · rw [tk_plain c r _ h47 h126, tk_plain c r _ h47 h126, addLast_append _ _ _ hne, tk_front n r o1 _ (by omega) hl.2 (Or.inl (addLast_ne _ _))]
theorem tk_append : ∀ (n : Nat) (l1 l2 : List UInt8) (out : List (List UInt8)), l1.length ≤ n → tlS l1 → tk (l1 ++ l2) out = tk l2 (tk l1 out)
  | _, [], _, _, _, _ => by rw [tk_nil]; rfl
  | 0, c :: r, _, _, hn, _ => by simp at hn
  | n + 1, c :: r, l2, out, hn, hl => by
    simp only [List.length_cons] at hn
    rw [List.cons_append]
    by_cases h47 : c = 47
    · subst h47
      rw [tk_slash, tk_slash, tk_append n r l2 _ (by omega) hl.2]
    · by_cases h126 : c = 126
      · subst h126
        obtain ⟨d, r', rfl, _⟩ := hl.1 rfl
        simp only [List.length_cons] at hn
        rw [List.cons_append, tk_tilde, tk_tilde, tk_append n r' l2 _ (by omega) hl.2.2]
      · rw [tk_plain c _ _ h47 h126, tk_plain c r _ h47 h126, tk_append n r l2 _ (by omega) hl.2]
theorem tlS_append : ∀ (l1 l2 : List UInt8), tlS (l1 ++ l2) → (l2 = [] ∨ ∃ r, l2 = 47 :: r) → tlS l1
  | [], _, _, _ => trivial
  | c :: r, l2, h, h2 => by
    refine ⟨fun hc => ?_, tlS_append r l2 h.2 h2⟩
    obtain ⟨d, r', e, hd⟩ := h.1 hc
    cases r with
    | nil =>
      rcases h2 with rfl | ⟨r2, rfl⟩
      · cases e
      · simp at e; obtain ⟨rfl, _⟩ := e; rcases hd with h | h <;> cases h
    | cons x y => simp at e; exact ⟨x, y, rfl, by rw [e.1]; exact hd⟩
theorem tlS_right : ∀ (l1 l2 : List UInt8), tlS (l1 ++ l2) → tlS l2
  | [], _, h => h
  | _ :: r, l2, h => tlS_right r l2 h.2

/-- Whether one pointer contains another one, as the package reckons. -/
def cont (p q : List UInt8) : Prop := ∃ s, q = p ++ s ∧ (s = [] ∨ ∃ r, s = 47 :: r)
theorem ptrOf_head (ts : List (List UInt8)) : ptrOf ts = [] ∨ ∃ r, ptrOf ts = 47 :: r := by
  cases ts with
  | nil => exact Or.inl rfl
  | cons t ts => exact Or.inr ⟨esc t ++ ptrOf ts, by simp [ptrOf]⟩
/-- The law: a pointer contains another one just if its tokens are the first ones of the other one. -/
theorem cont_iff (p q : List UInt8) (hp : pv p = true) (hq : pv q = true) : cont p q ↔ ∃ ts, tk q [] = tk p [] ++ ts := by
  obtain ⟨tp, hp0⟩ := pv_gives p hp
  obtain ⟨tq, hq0⟩ := pv_gives q hq
  constructor
  · rintro ⟨s, rfl, hs⟩
    refine ⟨tk s [], ?_⟩
    rw [tk_append _ p s [] (Nat.le_refl _) tp]
    have := tk_front _ s (tk p []) [] (Nat.le_refl _) (tlS_right p s tq) (Or.inr hs)
    rwa [List.append_nil] at this
  · rintro ⟨ts, h⟩
    have e1 := ptrOf_tk _ q [] (Nat.le_refl _) tq (Or.inr hq0)
    have e2 := ptrOf_tk _ p [] (Nat.le_refl _) tp (Or.inr hp0)
    rw [h, ptrOf_append, e2] at e1
    refine ⟨ptrOf ts, ?_, ptrOf_head ts⟩
    simpa [ptrOf] using e1.symm
theorem cont_refl (p : List UInt8) : cont p p := ⟨[], by simp, Or.inl rfl⟩
theorem cont_trans {p q r : List UInt8} (h : cont p q) (k : cont q r) : cont p r := by
  obtain ⟨s, rfl, hs⟩ := h
  obtain ⟨t, rfl, ht⟩ := k
  refine ⟨s ++ t, by simp, ?_⟩
  rcases hs with rfl | ⟨s', rfl⟩
  · simpa using ht
  · exact Or.inr ⟨s' ++ t, rfl⟩
theorem cont_antisymm {p q : List UInt8} (h : cont p q) (k : cont q p) : p = q := by
  obtain ⟨s, rfl, _⟩ := h
  obtain ⟨t, ht, _⟩ := k
  have := congrArg List.length ht
  rw [List.length_append, List.length_append] at this
  have : s = [] := List.eq_nil_of_length_eq_zero (by omega)
  simp [this]
end Go.Proofs.Ytegfdgmbhnfeeaa
