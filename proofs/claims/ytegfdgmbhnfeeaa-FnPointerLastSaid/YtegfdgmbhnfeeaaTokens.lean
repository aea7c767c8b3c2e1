/- The reference's PointerTokens, walked: the tokens of a valid pointer, in new memory. -/
import Derived.Test.YtegfdgmbhnfeeaaPtrValid
import Derived.Test.YtegfdgmbhnfeeaaSameTexts
import Derived.Lib.Strings
import Derived.Deep.LoopGhost
import Derived.BigRegion
namespace Go.Proofs.Ytegfdgmbhnfeeaa
open Go.RowKit
theorem infoStr : (Try.prog.info? 9).map (fun i => (i.zero, i.size, i.bytes)) = some (some (.string ByteArray.empty), 1, 16) := by kernel_rfl

theorem own_shape {w : World} {base : Nat} {e : TypeId} {size : Nat} {v : Value} {n : Nat} {xs : List Value} (h : w.ownsRow base e size v n xs) (hv : ¬ v = .slice none 0 0) : ∃ g cap, v = .slice (some ⟨g, 0, none⟩) n cap ∧ base ≤ g ∧ g < w.heap.size ∧ n ≤ cap ∧ cap ≤ maxLen := by
  rcases h.2 with ⟨h, _⟩ | ⟨g, cap, cur, rfl, hb, hg, hn, hm, _⟩
  · exact absurd h hv
  · exact ⟨g, cap, rfl, hb, (Array.getElem?_eq_some_iff.1 hg).1, hn, hm⟩

theorem own_len {w : World} {base : Nat} {e : TypeId} {size : Nat} {v : Value} {n : Nat} {xs : List Value} (h : w.ownsRow base e size v n xs) : xs.length = n * size := h.1
theorem drop_cons (s : ByteArray) (k : Nat) (h : k < s.size) : s.data.toList.drop k = s[k]'h :: s.data.toList.drop (k + 1) := by
  rw [List.drop_eq_getElem_cons (by simpa using h)]; rfl
theorem encs_last (out : List (List UInt8)) (h : 0 < out.length) : (encs out)[out.length - 1]? = some (.string ⟨(out.getLast?.getD []).toArray⟩) := by
  obtain ⟨o, l, rfl⟩ : ∃ o l, out = o ++ [l] := ⟨_, _, (List.dropLast_concat_getLast (by intro e; rw [e] at h; simp at h)).symm⟩
  simp [encs]
theorem encs_set (out : List (List UInt8)) (h : 0 < out.length) (c : List UInt8) : (encs out).set (out.length - 1) (.string (⟨(out.getLast?.getD []).toArray⟩ ++ ⟨c.toArray⟩)) = encs (addLast out c) := by
  obtain ⟨o, l, rfl⟩ : ∃ o l, out = o ++ [l] := ⟨_, _, (List.dropLast_concat_getLast (by intro e; rw [e] at h; simp at h)).symm⟩
  rw [addLast_snoc]
  simp [encs, ByteArray.mk_append_mk]
theorem extract_one (s : ByteArray) (k : Nat) (h : k < s.size) : s.extract k (k + 1) = ⟨[s[k]'h].toArray⟩ := by
  apply ByteArray.ext
  apply Array.ext'
  rw [Lib.extract_data, drop_cons s k h, show k + 1 - k = 1 by omega]
  rfl
/-- What the loop knows. -/
structure TokRel (s : ByteArray) (k : Nat) (out : List (List UInt8)) : Prop where
  pos : 0 < k → 0 < out.length
  len : out.length ≤ k
  tok : ∀ x, x ∈ out → x.length ≤ k
  eq : tk (s.data.toList.drop k) out = tk s.data.toList []
theorem TokRel.slash {s : ByteArray} {k : Nat} {out : List (List UInt8)} (h : TokRel s k out) (hk : k < s.size) (hc : ((s[k]'hk).toNat : Int) = 47) : TokRel s (k + 1) (out ++ [[]]) := by
  refine ⟨fun _ => by simp, by have := h.len; simp; omega, fun x hx => ?_, ?_⟩
  · rcases List.mem_append.1 hx with hx | hx
    · have := h.tok x hx; omega
    · simp at hx; subst hx; simp
  · rw [← h.eq, drop_cons s k hk, byte_eq (s[k]'hk) 47 hc, tk_slash]
theorem last_le {s : ByteArray} {k : Nat} {out : List (List UInt8)} (h : TokRel s k out) : (out.getLast?.getD []).length ≤ k := by
  cases e : out.getLast? with
  | none => simp
  | some x => exact h.tok x (List.mem_of_getLast? e)
theorem addLast_le {s : ByteArray} {k : Nat} {out : List (List UInt8)} (h : TokRel s k out) (c : UInt8) : ∀ x, x ∈ addLast out [c] → x.length ≤ k + 1 := by
  intro x hx
  unfold addLast at hx
  rcases List.mem_append.1 hx with hx | hx
  · have := h.tok x (List.dropLast_subset _ hx); omega
  · simp at hx; subst hx; have := last_le h; simp; omega
theorem TokRel.plain {s : ByteArray} {k : Nat} {out : List (List UInt8)} (h : TokRel s k out) (hk : k < s.size) (hp : 0 < out.length) (hc : ¬ ((s[k]'hk).toNat : Int) = 47) (hc' : ¬ ((s[k]'hk).toNat : Int) = 126) : TokRel s (k + 1) (addLast out [s[k]'hk]) := by
  refine ⟨fun _ => by rw [addLast_length _ _ hp]; exact hp, by rw [addLast_length _ _ hp]; have := h.len; omega, addLast_le h _, ?_⟩
  rw [← h.eq, drop_cons s k hk, tk_plain _ _ _ (fun e => hc (by rw [e]; rfl)) (fun e => hc' (by rw [e]; rfl))]
theorem TokRel.tilde {s : ByteArray} {k : Nat} {out : List (List UInt8)} (h : TokRel s k out) (hk : k < s.size) (hk1 : k + 1 < s.size) (hp : 0 < out.length) (hc : ((s[k]'hk).toNat : Int) = 126) (d : UInt8) (hd : (s[k + 1]'hk1 = 48 ∧ d = 126) ∨ (s[k + 1]'hk1 = 49 ∧ d = 47)) : TokRel s (k + 1 + 1) (addLast out [d]) := by
  refine ⟨fun _ => by rw [addLast_length _ _ hp]; exact hp, by rw [addLast_length _ _ hp]; have := h.len; omega, fun x hx => by have := addLast_le h d x hx; omega, ?_⟩
  rw [← h.eq, drop_cons s k hk, drop_cons s (k + 1) hk1, byte_eq (s[k]'hk) 126 hc, tk_tilde]
  rcases hd with ⟨e, rfl⟩ | ⟨e, rfl⟩ <;> rw [e] <;> rfl
/-- What a valid pointer gives, place by place. -/
theorem pv_at (s : ByteArray) (h : pv s.data.toList = true) : (∀ h0 : 0 < s.size, ((s[0]'h0).toNat : Int) = 47) ∧ ∀ k (hk : k < s.size), ((s[k]'hk).toNat : Int) = 126 → ∃ hk1 : k + 1 < s.size, s[k + 1]'hk1 = 48 ∨ s[k + 1]'hk1 = 49 := by
  unfold pv at h
  rw [Bool.and_eq_true, Bool.and_eq_true] at h
  obtain ⟨⟨_, h1⟩, h2⟩ := h
  unfold tl at h2
  rw [decide_eq_true_iff] at h2
  constructor
  · intro h0
    unfold hd at h1
    rw [Bool.or_eq_true] at h1
    rcases h1 with h1 | h1
    · rw [List.isEmpty_iff] at h1; rw [← size_list, h1] at h0; simp at h0
    · rw [at_eq]; simpa using h1
  · intro k hk hc
    rw [at_eq] at hc
    obtain ⟨a, b⟩ := h2 k (by rw [size_list]; exact hk) hc
    rw [size_list] at a
    refine ⟨a, ?_⟩
    rw [← at_eq s (k + 1) a] at b
    rcases b with b | b
    · exact Or.inl (byte_eq _ 48 b)
    · exact Or.inr (byte_eq _ 49 b)

theorem conv_one (w : World) (c : Int) (v : TypeId) : (convert 22 9 (.slice (some ⟨w.heap.size, 0, none⟩) 1 1)).run Try.prog (w.alloc (Obj.cells #[.int .u8 c] v)).drew = .ok (.string (strOfNums [c])) (w.alloc (Obj.cells #[.int .u8 c] v)).drew := by
  refine run_convert_bytes_arg _ _ 5 Try.underlying22 Try.underlying5 _ 0 1 1 [c] rfl (fun i hi => ?_) 9 Try.underlying9
  match i, hi with
  | 0, _ => simp
def one126 : ByteArray := ⟨#[126]⟩
def one47 : ByteArray := ⟨#[47]⟩
theorem one126_size : one126.size = 1 := rfl
theorem one47_size : one47.size = 1 := rfl
set_option maxHeartbeats 1000000 in
theorem tokens (s : ByteArray) (w : World) (hs : s.size ≤ 2147483647) (hv : Hid (pv s.data.toList = true)) :
    Calls Try.prog 15 #[.string s] w fun e w' => ∃ v, e = .returned v ∧ w'.ownsRow w.heap.size 9 1 v (tk s.data.toList []).length (encs (tk s.data.toList [])) ∧ Below w.heap.size w w' ∧ ¬ v = .slice none 0 0 := by
  obtain ⟨i0, hi, hz0, hz1, hz2⟩ := info_parts infoStr
  go_enter Try.func15, Try.ntmps15
  go_wp2
  go_loopw [3, 4] (fun v i wr => ∃ (k g cap : Nat) (out : List (List UInt8)), k ≤ s.size ∧ i = .int .i64 k ∧ v = .slice (some ⟨g, 0, none⟩) out.length cap ∧ wr.ownsRow w.heap.size 9 1 (.slice (some ⟨g, 0, none⟩) out.length cap) out.length (encs out) ∧ Below w.heap.size w wr ∧ w.heap.size ≤ g ∧ Hid (TokRel s k out))
    (fun _ i _ => s.size - (intOf i).toNat)
  case atStart => exact ⟨0, _, _, [], Nat.zero_le _, rfl, rfl, World.ownsRow_lit w #[] 0 (Nat.le_refl _) (by decide) rfl, (Below.refl _ _).alloc (Nat.le_refl _) _, Nat.le_refl _, ⟨fun h => absurd h (Nat.lt_irrefl _), Nat.le_refl _, fun x hx => by simp at hx, by rw [List.drop_zero]⟩⟩
  case round =>
    obtain ⟨k, g, cap, out, hk, rfl, rfl, hown, hb, hg, hT⟩ := hrel
    have hlen := hT.out.len
    by_cases hkl : k < s.size
    · by_cases h47 : ((s[k]'hkl).toNat : Int) = 47
      · have h47' : (((s[k]'hkl).toNat : Int) == 47) = true := by rw [h47]; rfl
        have HT : Hid (TokRel s (k + 1) (out ++ [[]])) := hT.out.slash hkl h47
        clear h47
        go_wp2_with (at_builtin; refine wpList_append_own _ rfl (.tmp 30) (.tmp 31) 30 rfl w.heap.size 9 i0 (.string ByteArray.empty) 1 16 Try.underlying30 hi hz0 hz1 hz2 rfl (by decide) _ _ _ rfl (hown.alloc _) ⟨wr.heap.size, 0, none⟩ 1 1 [.string ByteArray.empty] rfl rfl ?c1 ?c2 ?c3 ?c4 ?c5 ?_)
        case c1 => exact cell_one_new _ _ _
        case c2 => intro u hu; simp at hu; subst hu; rfl
        case c3 => unfold maxLen; omega
        case c4 => omega
        case c5 => have := hb.size; simp; omega
        · intro v' w1 hown' hgrow hnil
          obtain ⟨g', cap', rfl, hg', hg2, hc1, hc2⟩ := own_shape hown' hnil
          clear hown
          have hb1 : Below w.heap.size w w1 := (hb.alloc hb.size _).grown hgrow (by have := hb.size; simp; omega) (fun q e => by simp [Value.ownBlock] at e; omega)
          clear hb hgrow hnil
          have ho : w1.ownsRow w.heap.size 9 1 (.slice (some ⟨g', 0, none⟩) (out ++ [[]]).length cap') (out ++ [[]]).length (encs (out ++ [[]])) := by
            have e1 : (out ++ [([] : List UInt8)]).length = out.length + 1 := by simp
            have e2 : encs (out ++ [[]]) = encs out ++ [.string ByteArray.empty] := by simp [encs]; rfl
            rw [e1, e2]; exact hown'
          clear hown'
          go_wp2
          go_roundw
          case rel => exact ⟨k + 1, g', cap', out ++ [[]], by omega, by go_num, by simp, ho, hb1, hg', HT⟩
          case measure => simp [intOf]; omega
      · have h47' : (((s[k]'hkl).toNat : Int) == 47) = false := by simpa using h47
        have hk0 : 0 < k := by
          rcases Nat.eq_zero_or_pos k with e | e
          · subst e; exact absurd ((pv_at s hv.out).1 hkl) h47
          · exact e
        have hpos : 0 < out.length := hT.out.pos hk0
        obtain ⟨t, ht, hts, htl⟩ : ∃ t : ByteArray, wr.cell? ⟨g, out.length - 1, none⟩ = some (.string t) ∧ t.size ≤ k ∧ Hid (t = ⟨(out.getLast?.getD []).toArray⟩) :=
          ⟨_, (hown.cellAt _ (by omega)).trans (encs_last out hpos), by have := last_le hT.out; simpa [ByteArray.size] using this, rfl⟩
        have e1 : (IntKind.i64.wrap ((out.length : Int) - 1)) = (out.length : Int) - 1 := IntWalk.i64_in _ (by omega)
        have e2 : ((out.length : Int) - 1).toNat = out.length - 1 := by omega
        have hfr : wr.frozen? ⟨g, out.length - 1, none⟩ = false := hown.frozenAt _
        by_cases h126 : ((s[k]'hkl).toNat : Int) = 126
        · have h126' : (((s[k]'hkl).toNat : Int) == 126) = true := by rw [h126]; rfl
          obtain ⟨hk1, hd⟩ := (pv_at s hv.out).2 k hkl h126
          rcases hd with hd | hd
          · have HT : Hid (TokRel s (k + 1 + 1) (addLast out [126])) := hT.out.tilde hkl hk1 hpos h126 126 (Or.inl ⟨hd, rfl⟩)
            clear h126 h47
            have hadd : ∀ W, (Op.stringOp .add t one126).run Try.prog W = .ok (.string (t ++ one126)) W := fun W => run_string_add_sum W _ _ (by rw [one126_size]; omega)
            have hi0 : ∀ h, ((((⟨#[126, 47]⟩ : ByteArray)[0]'h).toNat : Nat) : Int) = 126 := fun _ => rfl
            have hcv : ∀ v, (convert 22 9 (.slice (some ⟨wr.heap.size, 0, none⟩) 1 1)).run Try.prog (wr.alloc (Obj.cells #[.int .u8 126] v)).drew = .ok (.string one126) (wr.alloc (Obj.cells #[.int .u8 126] v)).drew := fun v =>
              conv_one wr _ v
            have e48 : (((s[k + 1]'hk1).toNat : Nat) : Int) = 48 := by rw [hd]; rfl
            have hc2 : ∀ o, (wr.alloc o).cell? ⟨g, out.length - 1, none⟩ = some (.string t) := fun o => by rw [World.cell?_alloc_lt _ _ _ (World.block_lt_of_cell? _ _ ht)]; exact ht
            have hf2 : ∀ o, (wr.alloc o).frozen? ⟨g, out.length - 1, none⟩ = false := fun o => by rw [World.frozen?_alloc_old _ _ _ (Nat.ne_of_lt (World.block_lt_of_cell? _ _ ht))]; exact hfr
            go_wp2
            go_region
            go_wp2
            have hst := (hown.alloc (Obj.cells #[.int .u8 126] 5)).stored (out.length - 1) (.string (t ++ one126))
            have he : (encs out).set (out.length - 1) (.string (t ++ one126)) = encs (addLast out [126]) := by rw [htl.out]; exact encs_set out hpos [126]
            have hb1 : Below w.heap.size w ((wr.alloc (Obj.cells #[.int .u8 126] 5)).setCell ⟨g, out.length - 1, none⟩ (.string (t ++ one126))).drew := (Below.setCell (p := ⟨g, out.length - 1, none⟩) (hb.alloc hb.size _) hg _).drew
            go_roundw
            case rel => exact ⟨k + 1 + 1, g, cap, addLast out [126], by omega, by go_num, by rw [addLast_length _ _ hpos], by rw [addLast_length _ _ hpos, ← he]; exact hst.1, hb1, hg, HT⟩
            case measure => simp [intOf]; omega
          · have HT : Hid (TokRel s (k + 1 + 1) (addLast out [47])) := hT.out.tilde hkl hk1 hpos h126 47 (Or.inr ⟨hd, rfl⟩)
            clear h126 h47
            have hadd : ∀ W, (Op.stringOp .add t one47).run Try.prog W = .ok (.string (t ++ one47)) W := fun W => run_string_add_sum W _ _ (by rw [one47_size]; omega)
            have hi0 : ∀ h, ((((⟨#[126, 47]⟩ : ByteArray)[1]'h).toNat : Nat) : Int) = 47 := fun _ => rfl
            have hcv : ∀ v, (convert 22 9 (.slice (some ⟨wr.heap.size, 0, none⟩) 1 1)).run Try.prog (wr.alloc (Obj.cells #[.int .u8 47] v)).drew = .ok (.string one47) (wr.alloc (Obj.cells #[.int .u8 47] v)).drew := fun v =>
              conv_one wr _ v
            have e48 : (((s[k + 1]'hk1).toNat : Nat) : Int) = 49 := by rw [hd]; rfl
            have hc2 : ∀ o, (wr.alloc o).cell? ⟨g, out.length - 1, none⟩ = some (.string t) := fun o => by rw [World.cell?_alloc_lt _ _ _ (World.block_lt_of_cell? _ _ ht)]; exact ht
            have hf2 : ∀ o, (wr.alloc o).frozen? ⟨g, out.length - 1, none⟩ = false := fun o => by rw [World.frozen?_alloc_old _ _ _ (Nat.ne_of_lt (World.block_lt_of_cell? _ _ ht))]; exact hfr
            go_wp2
            go_region
            go_wp2
            have hst := (hown.alloc (Obj.cells #[.int .u8 47] 5)).stored (out.length - 1) (.string (t ++ one47))
            have he : (encs out).set (out.length - 1) (.string (t ++ one47)) = encs (addLast out [47]) := by rw [htl.out]; exact encs_set out hpos [47]
            have hb1 : Below w.heap.size w ((wr.alloc (Obj.cells #[.int .u8 47] 5)).setCell ⟨g, out.length - 1, none⟩ (.string (t ++ one47))).drew := (Below.setCell (p := ⟨g, out.length - 1, none⟩) (hb.alloc hb.size _) hg _).drew
            go_roundw
            case rel => exact ⟨k + 1 + 1, g, cap, addLast out [47], by omega, by go_num, by rw [addLast_length _ _ hpos], by rw [addLast_length _ _ hpos, ← he]; exact hst.1, hb1, hg, HT⟩
            case measure => simp [intOf]; omega
        · have h126' : (((s[k]'hkl).toNat : Int) == 126) = false := by simpa using h126
          have HT : Hid (TokRel s (k + 1) (addLast out [s[k]'hkl])) := hT.out.plain hkl hpos h47 h126
          clear h126 h47
          obtain ⟨u, hu, hus⟩ : ∃ u : ByteArray, Hid (u = ⟨[s[k]'hkl].toArray⟩) ∧ u.size = 1 := ⟨_, rfl, rfl⟩
          have hex : s.extract k (k + 1) = u := by rw [hu.out]; exact extract_one s k hkl
          have hadd : ∀ W, (Op.stringOp .add t u).run Try.prog W = .ok (.string (t ++ u)) W := fun W => run_string_add_sum W _ _ (by omega)
          go_wp2
          go_region
          go_wp2
          have hst := hown.stored (out.length - 1) (.string (t ++ u))
          have he : (encs out).set (out.length - 1) (.string (t ++ u)) = encs (addLast out [s[k]'hkl]) := by rw [htl.out, hu.out]; exact encs_set out hpos _
          have hb1 : Below w.heap.size w (wr.setCell ⟨g, out.length - 1, none⟩ (.string (t ++ u))).drew := (Below.setCell (p := ⟨g, out.length - 1, none⟩) hb hg _).drew
          go_roundw
          case rel => exact ⟨k + 1, g, cap, addLast out [s[k]'hkl], by omega, by go_num, by rw [addLast_length _ _ hpos], by rw [addLast_length _ _ hpos, ← he]; exact hst.1, hb1, hg, HT⟩
          case measure => simp [intOf]; omega
    · go_wp2
      go_ret
      have hfin := hT.out.eq
      rw [List.drop_of_length_le (by rw [size_list]; omega), tk_nil] at hfin
      exact ⟨_, rfl, by rw [← hfin]; exact hown, hb, by simp⟩
end Go.Proofs.Ytegfdgmbhnfeeaa
