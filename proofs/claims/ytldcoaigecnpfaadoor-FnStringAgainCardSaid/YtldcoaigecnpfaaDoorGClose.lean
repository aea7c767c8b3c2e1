/- How the row of a law is closed once its walk is there: over any program. The law returns true and leaves all that lay below as it was; then each argument and each named variable reads as it read. Plain words on bytes, of no program: the length of a character of UTF-8 at the beginning of a text, and whether a text is Unicode text. Plain words on UTF-8, of no program: what Go's DecodeRune hands back, against the length of the first character; a text's characters one by one. Plain words: a text taken character by character, each character giving some bytes; joined texts. Of no program. Plain words: the string for which the text of a string stands, its escapes read and what is no character replaced. Of no program. -/
import Derived.WalkKit
import Derived.ProofKit
import Derived.OpenShut
import Derived.JoinedCond
import Derived.Deep.DeepHandedRow
import Derived.Lib.SmallJoins
import Derived.Lib.DecodeN
import Derived.Lib.RuneBytes
namespace Go.Proofs.YtldcoaigecnpfaaDoor
open Go.ChangeShapes Go.WideShapes Go.ChangeAt Go.RowKit
section
variable {H : Type} {enc : TypeId × Value → H} {P : Program}
theorem trodAll_below (hl : laidOutB P = true) {W W' : World} (hb : Below W.heap.size W W') : ∀ (ts : List TypeId), (ts.all fun t => P.readableRec t && decide (t < P.types.size)) = true →
    ∀ (vs : List Value) (ds : List (DataW H)) (ps : List MemPlace), DataW.TrodAll enc P W 0 (fun _ => true) true ts vs ds ps → (∀ x ∈ ps, x.block < W.heap.size) →
      DataW.TrodAll enc P W' 0 (fun b => decide (b < W.heap.size)) true ts vs ds ps
  | [], _, vs, ds, ps, h, _ => by
    cases vs <;> cases ds <;> simp [DataW.TrodAll] at h
    subst h
    rfl
  | t :: ts, hts, vs, ds, ps, h, hlt => by
    simp only [List.all_cons, Bool.and_eq_true, decide_eq_true_eq] at hts
    obtain ⟨v, vs', d, ds', p, q, rfl, rfl, rfl, h0, h1⟩ := trodAll_cons h
    exact ⟨p, q, Below.trod hl hts.1.1 hts.1.2 h0 hb (fun x hx => hlt x (List.mem_append.2 (Or.inl hx))), trodAll_below hl hb ts hts.2 vs' ds' q h1 (fun x hx => hlt x (List.mem_append.2 (Or.inr hx))), rfl⟩

def varFine (P : Program) (n : String) : Bool :=
  match P.globalNamed n with
  | some g =>
    match P.globals[g]? with
    | some x => P.readableRec x.type && decide (x.type < P.types.size)
    | none => false
  | none => false

theorem trodVars_below (hl : laidOutB P = true) {W W' : World} (hb : Below W.heap.size W W') : ∀ (ns : List String), (ns.all (varFine P)) = true →
    ∀ (ds : List (DataW H)) (ps : List MemPlace), DataW.TrodVars enc P W (fun _ => true) ns ds ps → (∀ x ∈ ps, x.block < W.heap.size) →
      DataW.TrodVars enc P W' (fun b => decide (b < W.heap.size)) ns ds ps
  | [], _, ds, ps, h, _ => by
    obtain ⟨rfl, rfl⟩ := trodVars_none h
    rfl
  | n :: ns, hns, ds, ps, h, hlt => by
    simp only [List.all_cons, Bool.and_eq_true] at hns
    match ds, h with
    | d :: ds', h =>
      obtain ⟨g, t, cs, fuel, p, q, hg, ht, hv, hd, hr, rfl⟩ := h
      have hfine := hns.1
      unfold varFine at hfine
      rw [hg] at hfine
      simp only at hfine
      cases hx : P.globals[g]? with
      | none => rw [hx] at ht; cases ht
      | some x =>
        rw [hx] at ht hfine
        simp only at hfine
        obtain rfl : x.type = t := by simpa using ht
        simp only [Bool.and_eq_true, decide_eq_true_eq] at hfine
        have hgs : g < W.heap.size := by
          unfold World.var? at hv
          rw [hg] at hv
          simp only [Option.bind_some] at hv
          by_cases hh : g < W.heap.size
          · exact hh
          · rw [Array.getElem?_eq_none (by omega)] at hv; cases hv
        have hp : ∀ x ∈ p, x.block < W.heap.size := fun x hx => hlt x (List.mem_append.2 (Or.inl (List.mem_append.2 (Or.inr hx))))
        refine ⟨g, x.type, cs, fuel, p, q, hg, by rw [hx]; rfl, ?_, ?_, trodVars_below hl hb ns hns.2 ds' q hr (fun x hx => hlt x (List.mem_append.2 (Or.inr hx))), rfl⟩
        · exact Joins.var_stays hg hv hb (Nat.le_refl _)
        · exact DataW.trod_stays (kids_book hl hfine.1) (book_sized hfine.1) (fun h => by cases h) ⟨hfine.2, book_self _⟩ hd (fun y hy => hb.same (hp y hy)) (fun y hy => by simpa using hp y hy)

/-- THE CLOSE. -/
theorem law_post {f : Func} {s : ChangeSpec} {apart fresh : Bool} {W W' : World} {args : Array Value} {ds gs : List (DataW H)} {before : List MemPlace} {t : TypeId}
    (hl : laidOutB P = true) (hts : (f.params.toList.all fun t => P.readableRec t && decide (t < P.types.size)) = true) (hvs : (s.vars.all (varFine P)) = true)
    (hres : f.resultTypes = #[t]) (hbool : P.underlying t = some .bool)
    (hspec : s.fn H (ds ++ gs) = { results := [.lit (.bool true)], args := ds, vars := gs })
    (hW : DataW.Whole enc P f.params.toList s.vars apart W args.toList ds gs before) (hb : Below W.heap.size W W') :
    s.post enc P f apart fresh false false W args (.bool true) W' := by
  have hlt := hW.lt
  have hW' := hW
  obtain ⟨p, q, hA, hV, rfl, _, _⟩ := hW
  refine ⟨ds, gs, p ++ q, [], p, q, hW', ?_, ?_, ?_, hb.frame _, fun h => by cases h⟩
  · rw [hspec, hres]
    exact trodAll_mk1 (shut_bool hbool _)
  · rw [hspec]
    exact trodAll_below hl hb _ hts _ _ _ hA (fun x hx => hlt x (List.mem_append.2 (Or.inl hx)))
  · rw [hspec]
    exact trodVars_below hl hb _ hvs _ _ hV (fun x hx => hlt x (List.mem_append.2 (Or.inr hx)))
end
end Go.Proofs.YtldcoaigecnpfaaDoor
namespace Go.Proofs.YtldcoaigecnpfaaDoor
open Go.RowKit
/-- The bytes of the first character, or 0 (n: the length of the text; c0 .. c3: its first bytes, as far as it has them). -/
def rl (n c0 c1 c2 c3 : Int) : Int :=
  if c0 < 128 then 1
  else if 194 ≤ c0 ∧ c0 ≤ 223 then if 2 ≤ n ∧ 128 ≤ c1 ∧ c1 ≤ 191 then 2 else 0
  else if 224 ≤ c0 ∧ c0 ≤ 239 then if 3 ≤ n ∧ (c0 = 224 → 160 ≤ c1) ∧ 128 ≤ c1 ∧ c1 ≤ 191 ∧ (c0 = 237 → c1 ≤ 159) ∧ 128 ≤ c2 ∧ c2 ≤ 191 then 3 else 0
  else if 240 ≤ c0 ∧ c0 ≤ 244 then if 4 ≤ n ∧ (c0 = 240 → 144 ≤ c1) ∧ 128 ≤ c1 ∧ c1 ≤ 191 ∧ (c0 = 244 → c1 ≤ 143) ∧ 128 ≤ c2 ∧ c2 ≤ 191 ∧ 128 ≤ c3 ∧ c3 ≤ 191 then 4 else 0
  else 0
/-- Byte k of a list, as a number. -/
def atL (l : List UInt8) (k : Nat) : Int := ((l.getD k 0).toNat : Int)
theorem at_eq (s : ByteArray) (k : Nat) (h : k < s.size) : ((s[k]'h).toNat : Int) = atL s.data.toList k := by
  unfold atL
  rw [List.getD_eq_getElem?_getD, List.getElem?_eq_getElem (by simpa using h)]; rfl
theorem atL_range (l : List UInt8) (k : Nat) : 0 ≤ atL l k ∧ atL l k < 256 := by
  unfold atL; have := (l.getD k 0).toNat_lt; omega
theorem size_list (s : ByteArray) : s.data.toList.length = s.size := by simp
theorem ret_i64 {a b : Int} (h : a = b) : Ending.returned (.int .i64 a) = .returned (.int .i64 b) := by rw [h]
theorem ret_bool {a b : Bool} (h : a = b) : Ending.returned (.bool a) = .returned (.bool b) := by rw [h]
/-- The same of a list. -/
def rlL (l : List UInt8) : Int := rl l.length (atL l 0) (atL l 1) (atL l 2) (atL l 3)
theorem rlL_range (l : List UInt8) (h : 0 < l.length) : 0 ≤ rlL l ∧ rlL l ≤ 4 ∧ rlL l ≤ l.length := by
  unfold rlL rl
  repeat' split
  all_goals omega
end Go.Proofs.YtldcoaigecnpfaaDoor
namespace Go.Proofs.YtldcoaigecnpfaaDoor
open Go.RowKit
/-- The width of what is read: 1 at what is no character. -/
def decW (l : List UInt8) : Nat := if rlL l = 0 then 1 else (rlL l).toNat
def natL (l : List UInt8) (k : Nat) : Nat := (l.getD k 0).toNat
theorem natL_at (l : List UInt8) (k : Nat) : atL l k = (natL l k : Int) := rfl
theorem natL_lt (l : List UInt8) (k : Nat) : natL l k < 256 := (l.getD k 0).toNat_lt
/-- The model's decode at the head of a list. -/
def decN (l : List UInt8) : Nat × Nat := Go.Lib.decodeN l.length (natL l 0) (natL l 1) (natL l 2) (natL l 3)
set_option maxHeartbeats 4000000 in
theorem dec_rl (n b0 b1 b2 b3 : Nat) (_hn : 1 ≤ n) (h0 : b0 < 256) (h1 : b1 < 256) (h2 : b2 < 256) (h3 : b3 < 256) :
    (rl n b0 b1 b2 b3 = 0 → Go.Lib.decodeN n b0 b1 b2 b3 = (65533, 1)) ∧
    (¬ rl n b0 b1 b2 b3 = 0 → ((Go.Lib.decodeN n b0 b1 b2 b3).2 : Int) = rl n b0 b1 b2 b3 ∧ (128 ≤ b0 → 2 ≤ rl n b0 b1 b2 b3 ∧ 128 ≤ (Go.Lib.decodeN n b0 b1 b2 b3).1) ∧ (Go.Lib.decodeN n b0 b1 b2 b3).1 < 1114112 ∧
      ((Go.Lib.decodeN n b0 b1 b2 b3).1 = 65533 ↔ b0 = 239 ∧ b1 = 191 ∧ b2 = 189) ∧ ((Go.Lib.decodeN n b0 b1 b2 b3).1 = 8232 ↔ b0 = 226 ∧ b1 = 128 ∧ b2 = 168) ∧ ((Go.Lib.decodeN n b0 b1 b2 b3).1 = 8233 ↔ b0 = 226 ∧ b1 = 128 ∧ b2 = 169)) := by
  by_cases q : b0 < 128
  · have e : Go.Lib.decodeN n b0 b1 b2 b3 = (b0, 1) := by unfold Go.Lib.decodeN; rw [if_pos q]
    have e2 : rl n b0 b1 b2 b3 = 1 := by unfold rl; rw [if_pos (by omega)]
    rw [e, e2]
    refine ⟨by omega, fun _ => ⟨rfl, by omega, by show b0 < _; omega, ?_, ?_, ?_⟩⟩ <;> (show b0 = _ ↔ _; omega)
  by_cases q2 : b0 < 194
  · have e : Go.Lib.decodeN n b0 b1 b2 b3 = (65533, 1) := by unfold Go.Lib.decodeN; (repeat' split) <;> first | with_reducible rfl | (exfalso; omega)
    have e2 : rl n b0 b1 b2 b3 = 0 := by unfold rl; (repeat' split) <;> omega
    rw [e, e2]
    exact ⟨fun _ => rfl, fun h => absurd rfl h⟩
  by_cases q3 : b0 < 224
  · by_cases v : 2 ≤ n ∧ 128 ≤ b1 ∧ b1 ≤ 191
    · have e : Go.Lib.decodeN n b0 b1 b2 b3 = (b0 % 32 * 64 + b1 % 64, 2) := by unfold Go.Lib.decodeN; (repeat' split) <;> first | with_reducible rfl | (exfalso; omega)
      have e2 : rl n b0 b1 b2 b3 = 2 := by unfold rl; (repeat' split) <;> omega
      rw [e, e2]
      refine ⟨by omega, fun _ => ⟨rfl, fun _ => ⟨by omega, ?_⟩, ?_, ?_, ?_, ?_⟩⟩ <;> (simp only; omega)
    · have e : Go.Lib.decodeN n b0 b1 b2 b3 = (65533, 1) := by unfold Go.Lib.decodeN; (repeat' split) <;> first | with_reducible rfl | (exfalso; omega)
      have e2 : rl n b0 b1 b2 b3 = 0 := by unfold rl; (repeat' split) <;> omega
      rw [e, e2]
      exact ⟨fun _ => rfl, fun h => absurd rfl h⟩
  by_cases q4 : b0 < 240
  · by_cases v : 3 ≤ n ∧ (b0 = 224 → 160 ≤ b1) ∧ 128 ≤ b1 ∧ b1 ≤ 191 ∧ (b0 = 237 → b1 ≤ 159) ∧ 128 ≤ b2 ∧ b2 ≤ 191
    · have e : Go.Lib.decodeN n b0 b1 b2 b3 = (b0 % 16 * 4096 + b1 % 64 * 64 + b2 % 64, 3) := by unfold Go.Lib.decodeN; (repeat' split) <;> first | with_reducible rfl | (exfalso; omega)
      have e2 : rl n b0 b1 b2 b3 = 3 := by unfold rl; (repeat' split) <;> omega
      rw [e, e2]
      refine ⟨by omega, fun _ => ⟨rfl, fun _ => ⟨by omega, ?_⟩, ?_, ?_, ?_, ?_⟩⟩ <;> (simp only; omega)
    · have e : Go.Lib.decodeN n b0 b1 b2 b3 = (65533, 1) := by unfold Go.Lib.decodeN; (repeat' split) <;> first | with_reducible rfl | (exfalso; omega)
      have e2 : rl n b0 b1 b2 b3 = 0 := by unfold rl; (repeat' split) <;> omega
      rw [e, e2]
      exact ⟨fun _ => rfl, fun h => absurd rfl h⟩
  by_cases q5 : b0 ≤ 244
  · by_cases v : 4 ≤ n ∧ (b0 = 240 → 144 ≤ b1) ∧ 128 ≤ b1 ∧ b1 ≤ 191 ∧ (b0 = 244 → b1 ≤ 143) ∧ 128 ≤ b2 ∧ b2 ≤ 191 ∧ 128 ≤ b3 ∧ b3 ≤ 191
    · have e : Go.Lib.decodeN n b0 b1 b2 b3 = (b0 % 8 * 262144 + b1 % 64 * 4096 + b2 % 64 * 64 + b3 % 64, 4) := by unfold Go.Lib.decodeN; (repeat' split) <;> first | with_reducible rfl | (exfalso; omega)
      have e2 : rl n b0 b1 b2 b3 = 4 := by unfold rl; (repeat' split) <;> omega
      rw [e, e2]
      refine ⟨by omega, fun _ => ⟨rfl, fun _ => ⟨by omega, ?_⟩, ?_, ?_, ?_, ?_⟩⟩ <;> (simp only; omega)
    · have e : Go.Lib.decodeN n b0 b1 b2 b3 = (65533, 1) := by unfold Go.Lib.decodeN; (repeat' split) <;> first | with_reducible rfl | (exfalso; omega)
      have e2 : rl n b0 b1 b2 b3 = 0 := by unfold rl; (repeat' split) <;> omega
      rw [e, e2]
      exact ⟨fun _ => rfl, fun h => absurd rfl h⟩
  · have e : Go.Lib.decodeN n b0 b1 b2 b3 = (65533, 1) := by unfold Go.Lib.decodeN; (repeat' split) <;> first | with_reducible rfl | (exfalso; omega)
    have e2 : rl n b0 b1 b2 b3 = 0 := by unfold rl; (repeat' split) <;> omega
    rw [e, e2]
    exact ⟨fun _ => rfl, fun h => absurd rfl h⟩
theorem decW_range (l : List UInt8) (h : 0 < l.length) : 1 ≤ decW l ∧ decW l ≤ 4 ∧ decW l ≤ l.length := by
  have := rlL_range l h
  unfold decW; split <;> omega
theorem decN_two (l : List UInt8) (h : 0 < l.length) : (decN l).2 = decW l := by
  have := dec_rl l.length (natL l 0) (natL l 1) (natL l 2) (natL l 3) h (natL_lt _ _) (natL_lt _ _) (natL_lt _ _) (natL_lt _ _)
  have hr := rlL_range l h
  unfold decW decN
  by_cases q : rlL l = 0
  · rw [if_pos q, this.1 q]
  · rw [if_neg q]
    have := (this.2 q).1
    have e : rl l.length (natL l 0) (natL l 1) (natL l 2) (natL l 3) = rlL l := rfl
    rw [e] at this
    omega
end Go.Proofs.YtldcoaigecnpfaaDoor
namespace Go.Proofs.YtldcoaigecnpfaaDoor
open Go.RowKit
/-- Character by character (k bytes of a character that has begun are still to be passed). -/
def runF (p : List UInt8 → List UInt8) : Nat → List UInt8 → List UInt8
  | _, [] => []
  | k + 1, _ :: r => runF p k r
  | 0, c :: r => p (c :: r) ++ runF p (decW (c :: r) - 1) r
/-- Whether all characters are such. -/
def allF (p : List UInt8 → Bool) : Nat → List UInt8 → Bool
  | _, [] => true
  | k + 1, _ :: r => allF p k r
  | 0, c :: r => p (c :: r) && allF p (decW (c :: r) - 1) r
theorem runF_nil (p : List UInt8 → List UInt8) (k : Nat) : runF p k [] = [] := by cases k <;> rfl
theorem allF_nil (p : List UInt8 → Bool) (k : Nat) : allF p k [] = true := by cases k <;> rfl
theorem runF_drop (p : List UInt8 → List UInt8) : ∀ (k : Nat) (l : List UInt8), runF p k l = runF p 0 (l.drop k)
  | 0, l => by simp
  | k + 1, [] => by simp [runF_nil]
  | k + 1, c :: r => by rw [runF, runF_drop p k r]; rfl
theorem allF_drop (p : List UInt8 → Bool) : ∀ (k : Nat) (l : List UInt8), allF p k l = allF p 0 (l.drop k)
  | 0, l => by simp
  | k + 1, [] => by simp [allF_nil]
  | k + 1, c :: r => by rw [allF, allF_drop p k r]; rfl
theorem runF_step (p : List UInt8 → List UInt8) (l : List UInt8) (h : 0 < l.length) : runF p 0 l = p l ++ runF p 0 (l.drop (decW l)) := by
  cases l with
  | nil => simp at h
  | cons c r =>
    have hw := decW_range (c :: r) h
    obtain ⟨n, hn⟩ : ∃ n, decW (c :: r) = n + 1 := ⟨decW (c :: r) - 1, by omega⟩
    rw [runF, hn, runF_drop]; rfl
theorem allF_step (p : List UInt8 → Bool) (l : List UInt8) (h : 0 < l.length) : allF p 0 l = (p l && allF p 0 (l.drop (decW l))) := by
  cases l with
  | nil => simp at h
  | cons c r =>
    have hw := decW_range (c :: r) h
    obtain ⟨n, hn⟩ : ∃ n, decW (c :: r) = n + 1 := ⟨decW (c :: r) - 1, by omega⟩
    rw [allF, hn, allF_drop]; rfl
/-- At most k times as long. -/
theorem runF_length (p : List UInt8 → List UInt8) (m : Nat) (hp : ∀ l, 0 < l.length → (p l).length ≤ m * decW l) : ∀ (n : Nat) (l : List UInt8), l.length ≤ n → (runF p 0 l).length ≤ m * l.length
  | _, [], _ => by simp [runF_nil]
  | 0, c :: r, h => by simp at h
  | n + 1, c :: r, h => by
    have hw := decW_range (c :: r) (by simp)
    rw [runF_step p _ (by simp), List.length_append]
    have h1 := hp (c :: r) (by simp)
    have h2 := runF_length p m hp n ((c :: r).drop (decW (c :: r))) (by rw [List.length_drop]; simp only [List.length_cons] at h ⊢; omega)
    rw [List.length_drop] at h2
    have e : m * (c :: r).length = m * decW (c :: r) + m * ((c :: r).length - decW (c :: r)) := by rw [← Nat.mul_add, Nat.add_sub_cancel' hw.2.2]
    omega
/-- Whether the character is one. -/
def goodC (l : List UInt8) : Bool := decide (rlL l ≠ 0)
/-- What stands for what is no character. -/
def BR : List UInt8 := [239, 191, 189]
def mendC (l : List UInt8) : List UInt8 := if rlL l = 0 then BR else l.take (decW l)
def mendL (l : List UInt8) : List UInt8 := runF mendC 0 l
def cleanL (l : List UInt8) : Bool := allF goodC 0 l
theorem take_app (l r : List UInt8) (k j : Nat) (h : j < k) (hk : k ≤ l.length) : natL (l.take k ++ r) j = natL l j := by
  unfold natL
  rw [List.getD_eq_getElem?_getD, List.getD_eq_getElem?_getD, List.getElem?_append_left (by rw [List.length_take]; omega), List.getElem?_take, if_pos h]
/-- A character is known by its own bytes. -/
theorem rlL_local (l r : List UInt8) (h : 0 < l.length) (h0 : ¬ rlL l = 0) : rlL (l.take (decW l) ++ r) = rlL l := by
  have hw := decW_range l h
  have hd : (decW l : Int) = rlL l := by unfold decW; rw [if_neg h0]; have := rlL_range l h; omega
  have e : ∀ j, j < decW l → atL (l.take (decW l) ++ r) j = atL l j := fun j hj => by
    rw [natL_at, natL_at, take_app l r _ j hj hw.2.2]
  have hlen : (l.take (decW l) ++ r).length = decW l + r.length := by rw [List.length_append, List.length_take]; omega
  have e0 := e 0 (by omega)
  have hn : ((l.take (decW l) ++ r).length : Int) = decW l + r.length := by rw [hlen]; simp
  have hr1 := atL_range l 1
  have hr2 := atL_range l 2
  have hr3 := atL_range l 3
  have q : decW l = 1 ∨ decW l = 2 ∨ decW l = 3 ∨ decW l = 4 := by omega
  have hx : rlL l = rl l.length (atL l 0) (atL l 1) (atL l 2) (atL l 3) := rfl
  have hy : rlL (l.take (decW l) ++ r) = rl (l.take (decW l) ++ r).length (atL (l.take (decW l) ++ r) 0) (atL (l.take (decW l) ++ r) 1) (atL (l.take (decW l) ++ r) 2) (atL (l.take (decW l) ++ r) 3) := rfl
  rw [hy, hn, e0]
  rw [hx] at hd h0 ⊢
  rcases q with q | q | q | q
  · generalize atL (l.take (decW l) ++ r) 1 = x1
    generalize atL (l.take (decW l) ++ r) 2 = x2
    generalize atL (l.take (decW l) ++ r) 3 = x3
    rw [q] at hd ⊢
    clear hx hy e e0 hn hlen
    unfold rl at hd h0 ⊢
    ((repeat' split at hd) <;> (repeat' split) <;> omega)
  · rw [e 1 (by omega)]
    generalize atL (l.take (decW l) ++ r) 2 = x2
    generalize atL (l.take (decW l) ++ r) 3 = x3
    rw [q] at hd ⊢
    clear hx hy e e0 hn hlen
    unfold rl at hd h0 ⊢
    ((repeat' split at hd) <;> (repeat' split) <;> omega)
  · rw [e 1 (by omega), e 2 (by omega)]
    generalize atL (l.take (decW l) ++ r) 3 = x3
    rw [q] at hd ⊢
    clear hx hy e e0 hn hlen
    unfold rl at hd h0 ⊢
    ((repeat' split at hd) <;> (repeat' split) <;> omega)
  · rw [e 1 (by omega), e 2 (by omega), e 3 (by omega)]
    rw [q] at hd ⊢
    clear hx hy e e0 hn hlen
    unfold rl at hd h0 ⊢
    ((repeat' split at hd) <;> (repeat' split) <;> omega)
theorem decW_local (l r : List UInt8) (h : 0 < l.length) (h0 : ¬ rlL l = 0) : decW (l.take (decW l) ++ r) = decW l := by
  have e := rlL_local l r h h0
  show (if rlL (l.take (decW l) ++ r) = 0 then 1 else (rlL (l.take (decW l) ++ r)).toNat) = decW l
  rw [e]; rfl
theorem rlL_BR (r : List UInt8) : rlL (BR ++ r) = 3 := by
  have h0 : atL (BR ++ r) 0 = 239 := rfl
  have h1 : atL (BR ++ r) 1 = 191 := rfl
  have h2 : atL (BR ++ r) 2 = 189 := rfl
  have hl : ((BR ++ r).length : Int) = r.length + 3 := by simp [BR]; omega
  unfold rlL
  rw [h0, h1, h2, hl]
  generalize atL (BR ++ r) 3 = x
  unfold rl
  (repeat' split) <;> omega
theorem decW_BR (r : List UInt8) : decW (BR ++ r) = 3 := by unfold decW; rw [rlL_BR]; rfl
/-- What takes each character by its own bytes alone takes a mended text as it takes the text. -/
theorem runF_mend (p : List UInt8 → List UInt8) (hp : ∀ l r, 0 < l.length → ¬ rlL l = 0 → p (l.take (decW l) ++ r) = p l) (hb : ∀ l r, 0 < l.length → rlL l = 0 → p (BR ++ r) = p l) (n : Nat) :
    ∀ l : List UInt8, l.length ≤ n → runF p 0 (mendL l) = runF p 0 l := by
  induction n with
  | zero =>
    intro l h
    obtain rfl : l = [] := List.eq_nil_of_length_eq_zero (by omega)
    rfl
  | succ n ih =>
    intro l h
    by_cases hlen : 0 < l.length
    · have hw := decW_range l hlen
      have ih' := ih (l.drop (decW l)) (by rw [List.length_drop]; omega)
      have e : mendL l = mendC l ++ mendL (l.drop (decW l)) := runF_step _ _ hlen
      rw [e, runF_step p l hlen]
      by_cases h0 : rlL l = 0
      · have em : mendC l = BR := by unfold mendC; rw [if_pos h0]
        have ed : ∀ X : List UInt8, (BR ++ X).drop 3 = X := fun _ => rfl
        rw [em, runF_step p _ (by rw [List.length_append]; show 0 < 3 + _; omega), decW_BR, hb l _ hlen h0, ed, ih']
      · have em : mendC l = l.take (decW l) := by unfold mendC; rw [if_neg h0]
        have hl2 : (l.take (decW l)).length = decW l := by rw [List.length_take]; omega
        rw [em, runF_step p _ (by rw [List.length_append, hl2]; omega), decW_local l _ hlen h0, hp l _ hlen h0, List.drop_append, hl2, Nat.sub_self, List.drop_zero, List.drop_of_length_le (by omega), List.nil_append, ih']
    · obtain rfl : l = [] := List.eq_nil_of_length_eq_zero (by omega)
      rfl
theorem cleanL_step (l : List UInt8) (hlen : 0 < l.length) (hc : cleanL l = true) : ¬ rlL l = 0 ∧ cleanL (l.drop (decW l)) = true := by
  have ec : cleanL l = (goodC l && cleanL (l.drop (decW l))) := allF_step _ _ hlen
  rw [ec, Bool.and_eq_true] at hc
  exact ⟨by have := hc.1; unfold goodC at this; simpa using this, hc.2⟩
theorem natL_drop (m : List UInt8) (k j : Nat) : natL (m.drop k) j = natL m (k + j) := by
  unfold natL; rw [List.getD_eq_getElem?_getD, List.getD_eq_getElem?_getD, List.getElem?_drop]
theorem decW_ascii (l : List UInt8) (h : natL l 0 < 128) : rlL l = 1 ∧ decW l = 1 := by
  have e : rlL l = 1 := by
    unfold rlL rl
    rw [if_pos (by rw [natL_at]; omega)]
  exact ⟨e, by unfold decW; rw [e]; rfl⟩
end Go.Proofs.YtldcoaigecnpfaaDoor
namespace Go.Proofs.YtldcoaigecnpfaaDoor
open Go.RowKit
/-- Piece by piece, each piece of its own width (k bytes of a piece that has begun are still to be passed). -/
def runW (wd : List UInt8 → Nat) (p : List UInt8 → List UInt8) : Nat → List UInt8 → List UInt8
  | _, [] => []
  | k + 1, _ :: r => runW wd p k r
  | 0, c :: r => p (c :: r) ++ runW wd p (wd (c :: r) - 1) r
/-- Whether all pieces are such. -/
def allW (wd : List UInt8 → Nat) (p : List UInt8 → Bool) : Nat → List UInt8 → Bool
  | _, [] => true
  | k + 1, _ :: r => allW wd p k r
  | 0, c :: r => p (c :: r) && allW wd p (wd (c :: r) - 1) r
theorem runW_nil (wd : List UInt8 → Nat) (p : List UInt8 → List UInt8) (k : Nat) : runW wd p k [] = [] := by cases k <;> rfl
theorem allW_nil (wd : List UInt8 → Nat) (p : List UInt8 → Bool) (k : Nat) : allW wd p k [] = true := by cases k <;> rfl
theorem runW_drop (wd : List UInt8 → Nat) (p : List UInt8 → List UInt8) : ∀ (k : Nat) (l : List UInt8), runW wd p k l = runW wd p 0 (l.drop k)
  | 0, l => by simp
  | k + 1, [] => by simp [runW_nil]
  | k + 1, c :: r => by rw [runW, runW_drop wd p k r]; rfl
theorem allW_drop (wd : List UInt8 → Nat) (p : List UInt8 → Bool) : ∀ (k : Nat) (l : List UInt8), allW wd p k l = allW wd p 0 (l.drop k)
  | 0, l => by simp
  | k + 1, [] => by simp [allW_nil]
  | k + 1, c :: r => by rw [allW, allW_drop wd p k r]; rfl
theorem runW_step (wd : List UInt8 → Nat) (p : List UInt8 → List UInt8) (l : List UInt8) (h : 0 < l.length) (hw : 1 ≤ wd l) : runW wd p 0 l = p l ++ runW wd p 0 (l.drop (wd l)) := by
  cases l with
  | nil => simp at h
  | cons c r =>
    obtain ⟨n, hn⟩ : ∃ n, wd (c :: r) = n + 1 := ⟨wd (c :: r) - 1, by omega⟩
    rw [runW, hn, runW_drop]; rfl
theorem allW_step (wd : List UInt8 → Nat) (p : List UInt8 → Bool) (l : List UInt8) (h : 0 < l.length) (hw : 1 ≤ wd l) : allW wd p 0 l = (p l && allW wd p 0 (l.drop (wd l))) := by
  cases l with
  | nil => simp at h
  | cons c r =>
    obtain ⟨n, hn⟩ : ∃ n, wd (c :: r) = n + 1 := ⟨wd (c :: r) - 1, by omega⟩
    rw [allW, hn, allW_drop]; rfl
/-- At most m times as long. -/
theorem runW_length (wd : List UInt8 → Nat) (p : List UInt8 → List UInt8) (m : Nat) (hw : ∀ l, 0 < l.length → 1 ≤ wd l) (hp : ∀ l, 0 < l.length → (p l).length ≤ m) : ∀ (n : Nat) (l : List UInt8), l.length ≤ n → (runW wd p 0 l).length ≤ m * l.length
  | _, [], _ => by simp [runW_nil]
  | 0, c :: r, h => by simp at h
  | n + 1, c :: r, h => by
    have h0 := hw (c :: r) (by simp)
    rw [runW_step wd p _ (by simp) h0, List.length_append]
    have h1 := hp (c :: r) (by simp)
    have h2 := runW_length wd p m hw hp n ((c :: r).drop (wd (c :: r))) (by rw [List.length_drop]; simp only [List.length_cons] at h ⊢; omega)
    rw [List.length_drop] at h2
    have e : m * ((c :: r).length - wd (c :: r)) ≤ m * ((c :: r).length - 1) := Nat.mul_le_mul_left _ (by omega)
    have e2 : m * (c :: r).length = m * ((c :: r).length - 1) + m := by
      have : (c :: r).length = ((c :: r).length - 1) + 1 := by simp
      conv => lhs; rw [this, Nat.mul_succ]
    omega
/-- The number of a hexadecimal digit, or -1. -/
def hx (c : Int) : Int := if 48 ≤ c ∧ c ≤ 57 then c - 48 else if 97 ≤ c ∧ c ≤ 102 then c - 87 else if 65 ≤ c ∧ c ≤ 70 then c - 55 else -1
theorem hx_range (c : Int) : -1 ≤ hx c ∧ hx c ≤ 15 := by unfold hx; (repeat' split) <;> omega
/-- Four digits. -/
def hexOk (l : List UInt8) : Prop := 0 ≤ hx (atL l 2) ∧ 0 ≤ hx (atL l 3) ∧ 0 ≤ hx (atL l 4) ∧ 0 ≤ hx (atL l 5)
instance (l : List UInt8) : Decidable (hexOk l) := by unfold hexOk; infer_instance
def hexV (l : List UInt8) : Int := ((hx (atL l 2) * 16 + hx (atL l 3)) * 16 + hx (atL l 4)) * 16 + hx (atL l 5)
/-- The number of an escape by digits at the head, or -1. -/
def uV (l : List UInt8) : Int := if 6 ≤ l.length ∧ atL l 0 = 92 ∧ atL l 1 = 117 ∧ hexOk l then hexV l else -1
theorem hexV_range (l : List UInt8) (h : hexOk l) : 0 ≤ hexV l ∧ hexV l ≤ 65535 := by
  have a := hx_range (atL l 2)
  have b := hx_range (atL l 3)
  have c := hx_range (atL l 4)
  have d := hx_range (atL l 5)
  obtain ⟨a', b', c', d'⟩ := h
  unfold hexV
  omega
theorem uV_range (l : List UInt8) : -1 ≤ uV l ∧ uV l ≤ 65535 := by
  unfold uV
  split
  · next h => have := hexV_range l h.2.2.2; omega
  · omega
theorem uV_ok {l : List UInt8} (h : 0 ≤ uV l) : 6 ≤ l.length ∧ atL l 0 = 92 ∧ atL l 1 = 117 ∧ hexOk l := by
  unfold uV at h
  split at h
  · assumption
  · omega
/-- Two halves of one character. -/
def pairOk (c d : Int) : Prop := 55296 ≤ c ∧ c < 56320 ∧ 56320 ≤ d ∧ d ≤ 57343
instance (c d : Int) : Decidable (pairOk c d) := by unfold pairOk; infer_instance
def pairV (c d : Int) : Int := 65536 + (c - 55296) * 1024 + (d - 56320)
theorem pairV_range {c d : Int} (h : pairOk c d) : 65536 ≤ pairV c d ∧ pairV c d ≤ 1114111 := by
  obtain ⟨h1, h2, h3, h4⟩ := h; unfold pairV; omega
def halfU (c : Int) : Prop := 55296 ≤ c ∧ c ≤ 57343
instance (c : Int) : Decidable (halfU c) := by unfold halfU; infer_instance
/-- What an escape by digits stands for, and its width. -/
def uniC (l : List UInt8) : List UInt8 := if halfU (uV l) then (if pairOk (uV l) (uV (l.drop 6)) then Lib.encodeRune (pairV (uV l) (uV (l.drop 6))) else BR) else Lib.encodeRune (uV l)
def uniW (l : List UInt8) : Nat := if pairOk (uV l) (uV (l.drop 6)) then 12 else 6
def escC (l : List UInt8) : List UInt8 :=
  if natL l 1 = 98 then [8] else if natL l 1 = 102 then [12] else if natL l 1 = 110 then [10] else if natL l 1 = 114 then [13] else if natL l 1 = 116 then [9] else if natL l 1 = 117 then uniC l else [l.getD 1 0]
def escW (l : List UInt8) : Nat := if natL l 1 = 117 then uniW l else 2
/-- What a piece stands for, and its width. -/
def dcC (l : List UInt8) : List UInt8 := if natL l 0 = 92 then escC l else mendC l
def dcW (l : List UInt8) : Nat := if natL l 0 = 92 then escW l else decW l
/-- The string for which the bytes between the quotation marks stand. -/
def dcL (l : List UInt8) : List UInt8 := runW dcW dcC 0 l
/-- Whether the piece at the head is one (by loose rules). -/
def okPc (l : List UInt8) : Bool := if natL l 0 = 92 then decide (2 ≤ l.length ∧ (natL l 1 = 34 ∨ natL l 1 = 92 ∨ natL l 1 = 47 ∨ natL l 1 = 98 ∨ natL l 1 = 102 ∨ natL l 1 = 110 ∨ natL l 1 = 114 ∨ natL l 1 = 116 ∨ (natL l 1 = 117 ∧ 0 ≤ uV l))) else decide (¬ natL l 0 = 34 ∧ 32 ≤ natL l 0)
def okL (l : List UInt8) : Bool := allW dcW okPc 0 l
/-- Whether nothing of the piece at the head is replaced. -/
def neatC (l : List UInt8) : Bool := if natL l 0 = 92 then !decide (natL l 1 = 117 ∧ halfU (uV l) ∧ ¬ pairOk (uV l) (uV (l.drop 6))) else decide (¬ rlL l = 0)
def neatL (l : List UInt8) : Bool := allW dcW neatC 0 l
theorem uniW_range (l : List UInt8) : 6 ≤ uniW l ∧ uniW l ≤ 12 := by unfold uniW; split <;> omega
theorem dcW_pos (l : List UInt8) (h : 0 < l.length) : 1 ≤ dcW l := by
  have := decW_range l h
  have := uniW_range l
  unfold dcW escW; (repeat' split) <;> omega
theorem dcW_le (l : List UInt8) (h : 0 < l.length) (hk : okPc l = true) : dcW l ≤ l.length := by
  unfold okPc at hk
  unfold dcW
  by_cases a : natL l 0 = 92
  · rw [if_pos a] at hk ⊢
    rw [decide_eq_true_iff] at hk
    unfold escW
    by_cases b : natL l 1 = 117
    · rw [if_pos b]
      have hu : 0 ≤ uV l := by have := hk.2; omega
      have h6 := (uV_ok hu).1
      unfold uniW
      split
      · next q =>
        have := (uV_ok (l := l.drop 6) (by have := q.2.2.1; omega)).1
        rw [List.length_drop] at this
        omega
      · exact h6
    · rw [if_neg b]; exact hk.1
  · rw [if_neg a]; exact (decW_range l h).2.2
theorem dcL_step (l : List UInt8) (h : 0 < l.length) : dcL l = dcC l ++ dcL (l.drop (dcW l)) := runW_step _ _ _ h (dcW_pos l h)
theorem okL_step {l : List UInt8} (hk : okL l = true) (h : 0 < l.length) : okPc l = true ∧ okL (l.drop (dcW l)) = true := by
  have e : okL l = (okPc l && okL (l.drop (dcW l))) := allW_step _ _ _ h (dcW_pos l h)
  rw [e, Bool.and_eq_true] at hk
  exact hk
theorem neatL_step (l : List UInt8) (h : 0 < l.length) : neatL l = (neatC l && neatL (l.drop (dcW l))) := allW_step _ _ _ h (dcW_pos l h)
theorem enc_length (r : Int) : 1 ≤ (Lib.encodeRune r).length ∧ (Lib.encodeRune r).length ≤ 4 := by
  rw [← Lib.runeCells_length]; exact Lib.runeCells_le r
theorem uniC_length (l : List UInt8) : (uniC l).length ≤ 4 := by
  unfold uniC
  split
  · split
    · exact (enc_length _).2
    · show 3 ≤ 4; omega
  · exact (enc_length _).2
theorem escC_length (l : List UInt8) : (escC l).length ≤ 4 := by
  have := uniC_length l
  unfold escC
  (repeat' split) <;> first | exact this | (simp)
theorem dcC_length (l : List UInt8) (h : 0 < l.length) : (dcC l).length ≤ 4 := by
  unfold dcC
  split
  · exact escC_length l
  · unfold mendC
    split
    · show 3 ≤ 4; omega
    · rw [List.length_take]; have := decW_range l h; omega
theorem dcL_length (l : List UInt8) : (dcL l).length ≤ 4 * l.length := runW_length dcW dcC 4 dcW_pos dcC_length l.length l (Nat.le_refl _)
theorem BR_enc : Lib.encodeRune 65533 = BR := by decide
theorem takeD1 (l : List UInt8) (h : 1 ≤ l.length) : l.take 1 = [l.getD 0 0] := by
  match l, h with
  | a :: r, _ => simp
end Go.Proofs.YtldcoaigecnpfaaDoor
