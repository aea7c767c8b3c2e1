/- What the old scanner's machine keeps to: in plain words, of no program. -/
import Derived.Test.YtklncgmfbflooaaDoorScanV
namespace Go.Proofs.YtklncgmfbflooaaDoor
open Go.RowKit
/-- After k bytes. -/
structure InvC (s : Cfg) (k : Nat) : Prop where
  el : ∀ x ∈ s.st, x = 0 ∨ x = 1 ∨ x = 2
  len : s.st.length ≤ k
  bse : s.q = .BSE → ¬ s.st = []
  err : s.q = .Err → s.er = true
theorem InvC.to {s : Cfg} {k : Nat} (h : InvC s k) (q : Q) (h1 : ¬ q = .BSE) (h2 : ¬ q = .Err) : InvC (s.to q) (k + 1) := ⟨h.el, Nat.le_succ_of_le h.len, fun e => absurd e h1, fun e => absurd e h2⟩
theorem InvC.stay {s : Cfg} {k : Nat} (h : InvC s k) : InvC s (k + 1) := ⟨h.el, Nat.le_succ_of_le h.len, h.bse, h.err⟩
theorem InvC.fault {s : Cfg} {k : Nat} (h : InvC s k) : InvC s.fault (k + 1) := ⟨h.el, Nat.le_succ_of_le h.len, (fun e => by cases e), fun _ => rfl⟩
theorem InvC.pop {s : Cfg} {k : Nat} (h : InvC s k) : InvC (popM s) (k + 1) := by
  have h1 := h.el
  have h2 := h.len
  unfold popM
  cases e : s.st with
  | nil => exact ⟨fun x hx => by simp at hx, Nat.zero_le _, (fun z => by cases z), (fun z => by cases z)⟩
  | cons a r =>
    rw [e] at h1 h2
    cases r with
    | nil => exact ⟨fun x hx => by simp at hx, Nat.zero_le _, (fun z => by cases z), (fun z => by cases z)⟩
    | cons b t => exact ⟨fun x hx => h1 x (List.mem_cons_of_mem _ hx), by simp only [List.length_cons] at h2 ⊢; omega, (fun z => by cases z), (fun z => by cases z)⟩
theorem InvC.top {s : Cfg} {k : Nat} (h : InvC s k) (q : Q) (x : Int) (r : List Int) (hs : ∃ p, s.st = p :: r) (hx : x = 0 ∨ x = 1 ∨ x = 2) (h2 : ¬ q = .Err) : InvC { s with q := q, st := x :: r } (k + 1) := by
  obtain ⟨p, hp⟩ := hs
  have h1 := h.el
  have h3 := h.len
  rw [hp] at h1 h3
  refine ⟨fun y hy => ?_, ?_, (fun _ z => by cases z), fun e => absurd e h2⟩
  · rcases List.mem_cons.1 hy with rfl | hy
    · exact hx
    · exact h1 y (List.mem_cons_of_mem _ hy)
  · simp only [List.length_cons] at h3 ⊢; omega
theorem InvC.push {s : Cfg} {k : Nat} (h : InvC s k) (q : Q) (x : Int) (hx : x = 0 ∨ x = 1 ∨ x = 2) (h2 : ¬ q = .Err) : InvC { s with q := q, st := x :: s.st } (k + 1) := by
  refine ⟨fun y hy => ?_, ?_, (fun _ z => by cases z), fun e => absurd e h2⟩
  · rcases List.mem_cons.1 hy with rfl | hy
    · exact hx
    · exact h.el y hy
  · have := h.len
    simp only [List.length_cons]; omega
theorem inv_endTop {s : Cfg} {k : Nat} (h : InvC s k) (c : Int) : InvC (endTopM s c).1 (k + 1) := by
  unfold endTopM; split
  · exact h.stay
  · exact h.fault
theorem inv_endVal {s : Cfg} {k : Nat} (h : InvC s k) (c : Int) : InvC (endValM s c).1 (k + 1) := by
  unfold endValM
  cases e : s.st with
  | nil =>
    exact inv_endTop (s := { s with q := .ET, st := s.st, top := true }) ⟨h.el, h.len, (fun z => by cases z), (fun z => by cases z)⟩ c |> fun q => by rw [e] at q; exact q
  | cons ps r =>
    simp only
    (repeat' split)
    · exact h.to .EV (by intro z; cases z) (by intro z; cases z)
    · exact h.top .BV 1 r ⟨ps, e⟩ (.inr (.inl rfl)) (by intro z; cases z)
    · exact h.fault
    · exact h.top .BS 0 r ⟨ps, e⟩ (.inl rfl) (by intro z; cases z)
    · exact h.pop
    · exact h.fault
    · exact h.to .BV (by intro z; cases z) (by intro z; cases z)
    · exact h.pop
    · exact h.fault
theorem inv_bv {s : Cfg} {k : Nat} (h : InvC s k) (c : Int) : InvC (bvM s c).1 (k + 1) := by
  unfold bvM
  (repeat' split)
  all_goals first
    | exact h.stay
    | exact h.push .BSE 0 (.inl rfl) (by intro z; cases z)
    | exact h.push .BVE 2 (.inr (.inr rfl)) (by intro z; cases z)
    | exact h.fault
    | exact h.to _ (by intro z; cases z) (by intro z; cases z)
theorem inv_bs {s : Cfg} {k : Nat} (h : InvC s k) (c : Int) : InvC (bsM s c).1 (k + 1) := by
  unfold bsM
  (repeat' split)
  all_goals first
    | exact h.stay
    | exact h.fault
    | exact h.to _ (by intro z; cases z) (by intro z; cases z)
theorem inv_s0 {s : Cfg} {k : Nat} (h : InvC s k) (c : Int) : InvC (s0M s c).1 (k + 1) := by
  unfold s0M
  (repeat' split)
  all_goals first
    | exact inv_endVal h c
    | exact h.to _ (by intro z; cases z) (by intro z; cases z)
theorem inv_es {s : Cfg} {k : Nat} (h : InvC s k) (c : Int) : InvC (esM s c).1 (k + 1) := by
  unfold esM
  (repeat' split)
  all_goals first
    | exact h.fault
    | exact h.to _ (by intro z; cases z) (by intro z; cases z)
theorem inv_one {s : Cfg} {k : Nat} (h : InvC s k) (x : Int) (q : Q) (h1 : ¬ q = .BSE) (h2 : ¬ q = .Err) (c : Int) : InvC (oneM x q s c).1 (k + 1) := by
  unfold oneM
  split
  · exact h.to q h1 h2
  · exact h.fault
theorem inv_step {s : Cfg} {k : Nat} (h : InvC s k) (c : Int) : InvC (stepM s.q s c).1 (k + 1) := by
  have hb := h.bse
  generalize hq : s.q = g at hb
  cases g
  all_goals simp only [stepM]
  case BV => exact inv_bv h c
  case BVE => unfold bveM; (repeat' split) <;> first | exact h.stay | exact inv_endVal h c | exact inv_bv h c
  case BSE =>
    unfold bseM
    (repeat' split)
    · exact h.stay
    · obtain ⟨p, r, hs⟩ : ∃ p r, s.st = p :: r := by
        cases e : s.st with
        | nil => exact absurd e (hb rfl)
        | cons p r => exact ⟨p, r, rfl⟩
      have : InvC { s with st := 1 :: s.st.tail } k := by
        have h1 := h.el
        have h3 := h.len
        rw [hs] at h1 h3
        refine ⟨fun y hy => ?_, ?_, (fun _ z => by cases z), fun e => by rw [hq] at e; cases e⟩
        · rcases List.mem_cons.1 hy with rfl | hy
          · exact .inr (.inl rfl)
          · rw [hs] at hy; exact h1 y (List.mem_cons_of_mem _ hy)
        · simp only [List.length_cons, hs, List.tail_cons] at h3 ⊢; omega
      exact inv_endVal this c
    · exact inv_bs h c
  case BS => exact inv_bs h c
  case EV => exact inv_endVal h c
  case ET => exact inv_endTop h c
  case S0 => exact inv_s0 h c
  case S1 => unfold s1M; (repeat' split) <;> first | exact inv_s0 h c | exact h.to _ (by intro z; cases z) (by intro z; cases z)
  case ESign => exact inv_es h c
  case E => (repeat' split) <;> first | exact inv_es h c | exact h.to _ (by intro z; cases z) (by intro z; cases z)
  all_goals first
    | exact inv_one h _ _ (by intro z; cases z) (by intro z; cases z) c
    | exact h.stay
    | ((repeat' split) <;> first | exact h.stay | exact h.fault | exact inv_endVal h c | exact h.to _ (by intro z; cases z) (by intro z; cases z))
/-- What is told as a fault is one. -/
def Bad (r : Cfg × Int) : Prop := r.2 = 11 → r.1.er = true
theorem bad_err (s : Cfg) : Bad (errM s) := fun _ => rfl
theorem bad_ne {s : Cfg} {c : Int} (h : ¬ c = 11) : Bad (s, c) := fun q => absurd q h
theorem bad_endTop (s : Cfg) (c : Int) : Bad (endTopM s c) := by unfold endTopM; split <;> exact bad_ne (by decide)
theorem bad_endVal (s : Cfg) (c : Int) : Bad (endValM s c) := by
  unfold endValM
  cases s.st with
  | nil => exact bad_endTop _ _
  | cons ps r =>
    simp only
    (repeat' split) <;> first | exact bad_err _ | exact bad_ne (by decide)
theorem bad_bv (s : Cfg) (c : Int) : Bad (bvM s c) := by
  unfold bvM
  (repeat' split) <;> first | exact bad_err _ | exact bad_ne (by decide)
theorem bad_bs (s : Cfg) (c : Int) : Bad (bsM s c) := by
  unfold bsM
  (repeat' split) <;> first | exact bad_err _ | exact bad_ne (by decide)
theorem bad_s0 (s : Cfg) (c : Int) : Bad (s0M s c) := by
  unfold s0M
  (repeat' split) <;> first | exact bad_endVal _ _ | exact bad_ne (by decide)
theorem bad_es (s : Cfg) (c : Int) : Bad (esM s c) := by
  unfold esM
  (repeat' split) <;> first | exact bad_err _ | exact bad_ne (by decide)
theorem bad_one (x : Int) (q : Q) (s : Cfg) (c : Int) : Bad (oneM x q s c) := by
  unfold oneM
  split
  · exact bad_ne (by decide)
  · exact bad_err _
theorem bad_step {s : Cfg} {k : Nat} (h : InvC s k) (c : Int) : Bad (stepM s.q s c) := by
  have he := h.err
  generalize hq : s.q = g at he
  cases g
  all_goals simp only [stepM]
  case BV => exact bad_bv s c
  case BVE => unfold bveM; (repeat' split) <;> first | exact bad_ne (by decide) | exact bad_endVal _ _ | exact bad_bv _ _
  case BSE => unfold bseM; (repeat' split) <;> first | exact bad_ne (by decide) | exact bad_endVal _ _ | exact bad_bs _ _
  case BS => exact bad_bs s c
  case EV => exact bad_endVal s c
  case ET => exact bad_endTop s c
  case S0 => exact bad_s0 s c
  case S1 => unfold s1M; (repeat' split) <;> first | exact bad_s0 s c | exact bad_ne (by decide)
  case ESign => exact bad_es s c
  case E => (repeat' split) <;> first | exact bad_es s c | exact bad_ne (by decide)
  case Err => exact fun _ => he rfl
  all_goals first
    | exact bad_one _ _ s c
    | ((repeat' split) <;> first | exact bad_ne (by decide) | exact bad_err _ | exact bad_endVal _ _)
end Go.Proofs.YtklncgmfbflooaaDoor
