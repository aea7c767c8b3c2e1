/- A pointer built of texts is valid: plain words, of no program. -/
import Derived.Test.YtegfdgmbhnfeeaaPtrIsValid
namespace Go.Proofs.Ytegfdgmbhnfeeaa
open Go.RowKit
theorem tlS_all : ∀ (l : List UInt8), tlS l → ∀ i, i < l.length → tlAt l i
  | [], _, i, h => absurd h (Nat.not_lt_zero _)
  | c :: r, ⟨h1, h2⟩, 0, _ => fun q => by
    rw [atL_zero] at q
    have hc : c = 126 := byte_eq c 126 q
    obtain ⟨d, r', rfl, hd⟩ := h1 hc
    refine ⟨by simp, ?_⟩
    show atL (d :: r') 0 = 48 ∨ atL (d :: r') 0 = 49
    rw [atL_zero]
    rcases hd with rfl | rfl
    · exact .inl rfl
    · exact .inr rfl
  | c :: r, ⟨_, h2⟩, i + 1, h => fun q => by
    rw [atL_cons] at q
    obtain ⟨a, b⟩ := tlS_all r h2 i (by simp at h; omega) q
    refine ⟨by simp; omega, ?_⟩
    rw [atL_cons]
    exact b
theorem tlS_esc : ∀ (t r : List UInt8), tlS r → tlS (esc t ++ r)
  | [], r, h => h
  | c :: t, r, h => by
    have he : esc (c :: t) = (if c = 126 then [126, 48] else if c = 47 then [126, 49] else [c]) ++ esc t := by unfold esc; rw [List.flatMap_cons]
    have ih := tlS_esc t r h
    rw [he, List.append_assoc]
    by_cases a : c = 126
    · rw [if_pos a]
      exact ⟨fun _ => ⟨48, _, rfl, .inl rfl⟩, fun q => absurd q (by decide), ih⟩
    · rw [if_neg a]
      by_cases b : c = 47
      · rw [if_pos b]
        exact ⟨fun _ => ⟨49, _, rfl, .inr rfl⟩, fun q => absurd q (by decide), ih⟩
      · rw [if_neg b]
        exact ⟨fun q => absurd q a, ih⟩
theorem tlS_ptr : ∀ ts : List (List UInt8), tlS (ptrOf ts)
  | [] => trivial
  | t :: r => by
    have e : ptrOf (t :: r) = 47 :: (esc t ++ ptrOf r) := by unfold ptrOf; rw [List.flatMap_cons]; rfl
    rw [e]
    exact ⟨fun q => absurd q (by decide), tlS_esc t _ (tlS_ptr r)⟩
/-- A character of ASCII ahead. -/
theorem isTxt_ascii (c : UInt8) (r : List UInt8) (h : c.toNat < 128) : isTxt (c :: r) = isTxt r := by
  have hd := decW_ascii (c :: r) h
  rw [isTxt_step (c :: r) (by simp) (by rw [hd.1]; decide), hd.1]; rfl
/-- A whole character ahead. -/
theorem isTxt_take (l r : List UInt8) (h : 0 < l.length) (h0 : ¬ rlL l = 0) : isTxt (l.take (decW l) ++ r) = isTxt r := by
  have hw := decW_range l h
  have e := rlL_local l r h h0
  have hlen : (l.take (decW l)).length = decW l := by rw [List.length_take]; omega
  rw [isTxt_step _ (by rw [List.length_append, hlen]; omega) (by rw [e]; exact h0), e]
  have hd : (rlL l).toNat = decW l := by unfold decW; rw [if_neg h0]
  rw [hd, List.drop_left' hlen]
theorem isTxt_two (c d : UInt8) (r : List UInt8) (hc : c.toNat < 128) (hd : d.toNat < 128) : isTxt ([c, d] ++ r) = isTxt r := by
  have e : [c, d] ++ r = c :: d :: r := rfl
  rw [e, isTxt_ascii _ _ hc, isTxt_ascii _ _ hd]
theorem isTxt_escH (l r : List UInt8) (h : 0 < l.length) (h0 : ¬ rlL l = 0) : isTxt (escH l ++ r) = isTxt r := by
  by_cases a : natL l 0 = 126
  · have e : escH l = [126, 48] := by unfold escH; rw [if_pos a]
    rw [e]; exact isTxt_two _ _ _ (by decide) (by decide)
  · by_cases b : natL l 0 = 47
    · have e : escH l = [126, 49] := by unfold escH; rw [if_neg a, if_pos b]
      rw [e]; exact isTxt_two _ _ _ (by decide) (by decide)
    · have e : escH l = l.take (decW l) := by unfold escH; rw [if_neg a, if_neg b]
      rw [e]; exact isTxt_take l r h h0
theorem isTxt_esc (n : Nat) : ∀ (l r : List UInt8), l.length ≤ n → isTxt l = true → isTxt (esc l ++ r) = isTxt r := by
  induction n with
  | zero =>
    intro l r h _
    have : l = [] := List.eq_nil_of_length_eq_zero (by omega)
    rw [this]; rfl
  | succ n ih =>
    intro l r hn ht
    by_cases h : 0 < l.length
    · have h0 : ¬ rlL l = 0 := fun q => by have := isTxt_no l h q; rw [ht] at this; cases this
      have hw := decW_range l h
      have hd : (rlL l).toNat = decW l := by unfold decW; rw [if_neg h0]
      have ht2 := isTxt_step l h h0
      rw [hd, ht] at ht2
      rw [esc_char l h, List.append_assoc, isTxt_escH l _ h h0]
      exact ih (l.drop (decW l)) r (by rw [List.length_drop]; omega) ht2.symm
    · have : l = [] := List.eq_nil_of_length_eq_zero (by omega)
      rw [this]; rfl
theorem isTxt_ptr : ∀ ts : List (List UInt8), (∀ t, t ∈ ts → isTxt t = true) → isTxt (ptrOf ts) = true
  | [], _ => rfl
  | t :: r, h => by
    have e : ptrOf (t :: r) = 47 :: (esc t ++ ptrOf r) := by unfold ptrOf; rw [List.flatMap_cons]; rfl
    rw [e, isTxt_ascii _ _ (by decide), isTxt_esc t.length t _ (Nat.le_refl _) (h t (List.mem_cons_self ..))]
    exact isTxt_ptr r fun x hx => h x (List.mem_cons_of_mem _ hx)
theorem okV_ptr (ts : List (List UInt8)) (h : ∀ t, t ∈ ts → isTxt t = true) : okV (ptrOf ts) := by
  refine ⟨isTxt_ptr ts h, ?_, tlS_all _ (tlS_ptr ts)⟩
  rcases ptrOf_head ts with q | ⟨r, q⟩
  · rw [q]; rfl
  · rw [q]; rfl
theorem ptrOf_le (ts : List (List UInt8)) (h : ∀ t, t ∈ ts → t.length ≤ 100) : (ptrOf ts).length ≤ 201 * ts.length := by
  induction ts with
  | nil => simp [ptrOf]
  | cons t r ih =>
    have e : ptrOf (t :: r) = 47 :: (esc t ++ ptrOf r) := by unfold ptrOf; rw [List.flatMap_cons]; rfl
    have h1 := ih fun x hx => h x (List.mem_cons_of_mem _ hx)
    have h2 := esc_le2 t
    have h3 := h t (List.mem_cons_self ..)
    rw [e, List.length_cons, List.length_append, List.length_cons]
    omega
end Go.Proofs.Ytegfdgmbhnfeeaa
