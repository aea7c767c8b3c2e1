/- Pointer.Contains, walked: it tells whether one text is the other one, or goes on behind it with a slash; nothing is written. -/
import Derived.Test.YtbnnccadnnfomaaProg
import Derived.Test.YtbnnccadnnfomaaPtrPlain
import Derived.WalkLawsBesides
import Derived.WalkSpells
import Derived.Lib.Hide
import Derived.Lib.Strings
import Derived.Lib.IndexBytes
namespace Go.Proofs.Ytbnnccadnnfomaa
open Go.RowKit
theorem pre_yes (p s : ByteArray) (w : World) (hl : p.size ≤ s.size) (he : (s.extract 0 p.size).toList = p.toList) :
    Calls Try.prog 30 #[.string s, .string p] w fun e w' => e = .returned (.tuple #[.string (s.extract p.size s.size), .bool true]) ∧ w = w' := by
  have hl' : (p.size : Int) ≤ s.size := by omega
  have he' : ((s.extract 0 p.size).toList == p.toList) = true := by rw [he]; simp
  clear he
  go_enter Try.func30, Try.ntmps30
  go_wp2
  go_ret2
  exact ⟨rfl, rfl⟩
theorem pre_no1 (p s : ByteArray) (w : World) (hl : p.size ≤ s.size) (he : ¬ (s.extract 0 p.size).toList = p.toList) :
    Calls Try.prog 30 #[.string s, .string p] w fun e w' => e = .returned (.tuple #[.string s, .bool false]) ∧ w = w' := by
  have hl' : (p.size : Int) ≤ s.size := by omega
  have he' : ((s.extract 0 p.size).toList == p.toList) = false := by simpa using he
  clear he
  go_enter Try.func30, Try.ntmps30
  go_wp2
  go_ret2
  exact ⟨rfl, rfl⟩
theorem pre_no2 (p s : ByteArray) (w : World) (hl : ¬ p.size ≤ s.size) :
    Calls Try.prog 30 #[.string s, .string p] w fun e w' => e = .returned (.tuple #[.string s, .bool false]) ∧ w = w' := by
  have hl' : ¬ (p.size : Int) ≤ s.size := by omega
  go_enter Try.func30, Try.ntmps30
  go_wp2
  go_ret2
  exact ⟨rfl, rfl⟩
def contB (p q : List UInt8) : Bool := p.isPrefixOf q && ((q.drop p.length).isEmpty || atL (q.drop p.length) 0 == 47)
theorem head47 (l : List UInt8) (h : atL l 0 = 47) : ∃ r, l = 47 :: r := by
  cases l with
  | nil => simp [atL] at h
  | cons c r => exact ⟨r, by rw [byte_eq c 47 h]⟩
theorem contB_iff (p q : List UInt8) : contB p q = true ↔ cont p q := by
  unfold contB cont
  rw [Bool.and_eq_true, Bool.or_eq_true, List.isPrefixOf_iff_prefix, List.isEmpty_iff, beq_iff_eq]
  constructor
  · rintro ⟨⟨s, rfl⟩, h⟩
    rw [List.drop_left] at h
    exact ⟨s, rfl, h.imp id (head47 s)⟩
  · rintro ⟨s, rfl, h⟩
    rw [List.drop_left]
    exact ⟨⟨s, rfl⟩, h.imp id fun ⟨r, e⟩ => by rw [e]; rfl⟩
theorem prefix_iff (p s : ByteArray) : (p.size ≤ s.size ∧ (s.extract 0 p.size).toList = p.toList) ↔ p.data.toList.isPrefixOf s.data.toList = true := by
  rw [List.isPrefixOf_iff_prefix, ByteArray.toList_eq, ByteArray.toList_eq, Lib.extract_data, List.drop_zero, Nat.sub_zero, ← size_list p, ← size_list s]
  constructor
  · rintro ⟨_, h⟩
    rw [← h]; exact List.take_prefix _ _
  · rintro ⟨t, h⟩
    rw [← h]
    exact ⟨by simp, by rw [List.take_left]⟩
theorem rest_nil (p s : ByteArray) : (s.extract p.size s.size).toList.isEmpty = (s.data.toList.drop p.data.toList.length).isEmpty := by
  rw [ByteArray.toList_eq, Lib.extract_to_end, size_list]
theorem rest_at (p s : ByteArray) (h : 0 < (s.extract p.size s.size).size) : (((s.extract p.size s.size)[0]'h).toNat : Int) = atL (s.data.toList.drop p.data.toList.length) 0 := by
  rw [at_eq, Lib.extract_to_end, size_list]
theorem nonempty_of' (b : ByteArray) (h : b.toList.isEmpty = false) : 0 < b.size := by
  rw [ByteArray.toList_eq] at h
  rw [← size_list]
  cases hb : b.data.toList with
  | nil => rw [hb] at h; cases h
  | cons c r => simp

theorem contains (p q : ByteArray) (w : World) : Calls Try.prog 23 #[.string p, .string q] w fun e w' => e = .returned (.bool (contB p.data.toList q.data.toList)) ∧ w = w' := by
  have hpre := prefix_iff p q
  by_cases hp : p.data.toList.isPrefixOf q.data.toList = true
  · obtain ⟨hl, he⟩ := hpre.2 hp
    have hc := pre_yes p q w hl he
    have hcb : contB p.data.toList q.data.toList = ((q.data.toList.drop p.data.toList.length).isEmpty || atL (q.data.toList.drop p.data.toList.length) 0 == 47) := by unfold contB; rw [hp]; rfl
    have hn := rest_nil p q
    have ha := rest_at p q
    rw [hcb, ← hn]
    clear hcb hpre hp he hl
    generalize atL (q.data.toList.drop p.data.toList.length) 0 = c at ha ⊢
    generalize q.extract p.size q.size = r at hc ha hn ⊢
    clear hn
    cases hz : r.toList.isEmpty
    · have hz2 : (!r.toList.isEmpty) = true := by rw [hz]; rfl
      have h0 : 0 < r.size := nonempty_of' r hz
      have ha' := ha h0
      subst ha'
      by_cases h47 : ((r[0]'h0).toNat : Int) = 47
      · have e1 : (((r[0]'h0).toNat : Int) == 47) = true := by rw [h47]; rfl
        rw [e1]
        clear h47 ha
        go_enter Try.func23, Try.ntmps23
        go_wp2_with fail
        refine hc.mono ?_
        rintro e w' ⟨rfl, rfl⟩
        clear hc
        go_wp2
        go_ret
        exact ⟨rfl, rfl⟩
      · have e1 : (((r[0]'h0).toNat : Int) == 47) = false := by simpa using h47
        rw [e1]
        clear h47 ha
        go_enter Try.func23, Try.ntmps23
        go_wp2_with fail
        refine hc.mono ?_
        rintro e w' ⟨rfl, rfl⟩
        clear hc
        go_wp2
        go_ret
        exact ⟨rfl, rfl⟩
    · have hz2 : (!r.toList.isEmpty) = false := by rw [hz]; rfl
      go_enter Try.func23, Try.ntmps23
      go_wp2_with fail
      refine hc.mono ?_
      rintro e w' ⟨rfl, rfl⟩
      clear hc
      go_wp2
      go_ret
      exact ⟨rfl, rfl⟩
  · have hcb : contB p.data.toList q.data.toList = false := by unfold contB; rw [Bool.and_eq_false_iff]; left; simpa using hp
    have hc : Calls Try.prog 30 #[.string q, .string p] w fun e w' => e = .returned (.tuple #[.string q, .bool false]) ∧ w = w' := by
      by_cases hl : p.size ≤ q.size
      · exact pre_no1 p q w hl (fun he => hp (hpre.1 ⟨hl, he⟩))
      · exact pre_no2 p q w hl
    rw [hcb]
    clear hcb hp hpre
    go_enter Try.func23, Try.ntmps23
    go_wp2_with fail
    refine hc.mono ?_
    rintro e w' ⟨rfl, rfl⟩
    clear hc
    go_wp2
    go_ret
    exact ⟨rfl, rfl⟩
theorem ptrContains (p q : ByteArray) (w : World) : Calls Try.prog 12 #[.string p, .string q] w fun e w' => e = .returned (.bool (contB p.data.toList q.data.toList)) ∧ w = w' := by
  have hc := contains p q w
  generalize contB p.data.toList q.data.toList = b at hc ⊢
  go_enter Try.func12, Try.ntmps12
  go_wp2_with fail
  refine hc.mono ?_
  rintro e w' ⟨rfl, rfl⟩
  clear hc
  go_wp2
  go_ret
  exact ⟨rfl, rfl⟩
end Go.Proofs.Ytbnnccadnnfomaa
