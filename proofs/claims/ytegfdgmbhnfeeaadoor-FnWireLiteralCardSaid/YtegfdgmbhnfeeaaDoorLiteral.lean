/- jsonwire.ConsumeLiteral, walked. -/
import Derived.Test.YtegfdgmbhnfeeaaDoorInvChar
import Derived.Test.YtegfdgmbhnfeeaaDoorRdWord
import Derived.Deep.LoopGhost
import Derived.BigQuiet
import Derived.Deep.QuietTactic
import Derived.Deep.RegionWith
import Derived.Laws.Concat
import Derived.Laws.Runes
namespace Go.Proofs.YtegfdgmbhnfeeaaDoor
open Go.RowKit
theorem encode_size (n : Int) : (Utf8.encode n).size ≤ 4 := by
  unfold Utf8.encode
  simp only
  repeat' split
  all_goals (first | decide | (simp [ByteArray.size]; done) | (show _ ≤ 4; exact Nat.le_of_ble_eq_true rfl))
theorem addS (a b : ByteArray) (n m : Nat) (ha : a.size ≤ n) (hb : b.size ≤ m) (hn : n ≤ 80000) (hm : m ≤ 80000) : ∃ S : ByteArray, (∀ W, (Op.stringOp .add a b).run Tryd.prog W = .ok (.string S) W) ∧ S.size ≤ n + m :=
  ⟨a ++ b, fun W => run_string_add W a b (by omega) (by omega), by simp; omega⟩
theorem convC (c : Int) : ∃ S : ByteArray, (∀ W, (convert 5 9 (.int .u8 c)).run Tryd.prog W = .ok (.string S) W) ∧ S.size ≤ 4 :=
  ⟨Utf8.encode c, fun W => run_convert_int_string W _ _ _ _ (by rw [Tryd.underlying5]; rfl) Tryd.underlying9, encode_size c⟩
def FinePost (n : Nat) (v : Value) (w : World) (e : Ending) (w' : World) : Prop := e = .returned (.tuple #[.int .i64 n, v]) ∧ Below w.heap.size w w'
def BadPost (n : Nat) (w : World) (e : Ending) (w' : World) : Prop := (∃ p : Addr, e = .returned (.tuple #[.int .i64 n, .iface 48 (.pointer (some p))])) ∧ Below w.heap.size w w'
theorem Below.drewN' {B : Nat} {a w : World} (h : Below B a w) (n : Nat) : Below B a (w.drewN n) := ⟨h.os, h.tape, h.output, h.size, h.block⟩
set_option maxRecDepth 100000 in
set_option maxHeartbeats 2000000 in
theorem lit_fine (l : List UInt8) (m : ByteArray) (b cap : Nat) (w : World) (hp : BytesAt w b 0 l) (_hlc : l.length ≤ cap) (_hcap : cap ≤ maxLen) (hl : l.length ≤ 4000) (_hm : m.size ≤ 4000) (hd : Hid (Parts l m.data.toList m.size)) (hml : m.size ≤ l.length) :
    Calls Tryd.prog 8 #[.slice (some ⟨b, 0, none⟩) l.length cap, .string m] w (FinePost m.size .nilIface w) := by
  have HP := Lib.hid hp
  clear hp
  obtain ⟨n, hn⟩ : ∃ n, n = l.length := ⟨_, rfl⟩
  rw [← hn] at _hlc hl hml ⊢
  have HN := Lib.hid hn
  clear hn
  go_enter Tryd.func8, Tryd.ntmps8
  go_wp2
  go_loopg [6] m.size (fun q i wx => ∃ j z : Nat, j ≤ m.size ∧ q = m.size - j ∧ i = .int .i64 j ∧ wx = w.drewN z)
  case atStart => exact ⟨0, 0, Nat.zero_le _, rfl, rfl, rfl⟩
  case round =>
    obtain ⟨j, z, hj, rfl, rfl, rfl⟩ := hrel
    by_cases hjk : j < m.size
    · have hjm : j < m.size := by omega
      have hx : ((m[j]'hjm).toNat : Int) = atL m.data.toList j := at_eq m j hjm
      have he : atL l j = atL m.data.toList j := hd.out.2.2.1 j (by have := HN.out; omega)
      have hc : w.cell? ⟨b, 0 + j, none⟩ = some (.int .u8 (atL l j)) := by
        rw [HP.out j (by have := HN.out; omega)]
      rw [Nat.zero_add, he, ← hx] at hc
      have h1 : (j : Int) < (n : Int) := by omega
      have h2 : (j : Int) < (m.size : Int) := by omega
      have hjn : j < n := by omega
      have hxx : (((m[j]'hjm).toNat : Int) != ((m[j]'hjm).toNat : Int)) = false := by simp
      clear hx he
      go_wp2
      go_quiet (fail)
      go_wp2
      go_roundg (m.size - (j + 1))
      case measure => omega
      case rel => exact ⟨j + 1, _, by omega, rfl, by go_num, rfl⟩
    · have hje : j = m.size := by omega
      subst hje
      have h2 : ¬ (m.size : Int) < (m.size : Int) := by omega
      have h3 : ¬ (n : Int) < (m.size : Int) := by omega
      clear hjk
      go_wp2
      all_goals (
        go_ret2
        exact ⟨rfl, Below.drewN' (Below.refl _ _) _⟩)
set_option maxRecDepth 100000 in
set_option maxHeartbeats 2000000 in
theorem lit_short (l : List UInt8) (m : ByteArray) (b cap : Nat) (w : World) (hp : BytesAt w b 0 l) (hlc : l.length ≤ cap) (_hcap : cap ≤ maxLen) (hl : l.length ≤ 4000) (hm : m.size ≤ 4000) (hd : Hid (Parts l m.data.toList l.length)) (hml : l.length < m.size) (E : Addr) (hE : w.cell? ⟨0, 0, none⟩ = some (.iface 73 (.pointer (some E)))) :
    Calls Tryd.prog 8 #[.slice (some ⟨b, 0, none⟩) l.length cap, .string m] w (FinePost l.length (.iface 73 (.pointer (some E))) w) := by
  have HP := Lib.hid hp
  clear hp
  obtain ⟨n, hn⟩ : ∃ n, n = l.length := ⟨_, rfl⟩
  rw [← hn] at hlc hl hml ⊢
  have HN := Lib.hid hn
  clear hn
  go_enter Tryd.func8, Tryd.ntmps8
  go_wp2
  go_loopg [6] n (fun q i wx => ∃ j z : Nat, j ≤ n ∧ q = n - j ∧ i = .int .i64 j ∧ wx = w.drewN z)
  case atStart => exact ⟨0, 0, Nat.zero_le _, rfl, rfl, rfl⟩
  case round =>
    obtain ⟨j, z, hj, rfl, rfl, rfl⟩ := hrel
    by_cases hjk : j < n
    · have hjm : j < m.size := by omega
      have hx : ((m[j]'hjm).toNat : Int) = atL m.data.toList j := at_eq m j hjm
      have he : atL l j = atL m.data.toList j := hd.out.2.2.1 j (by have := HN.out; omega)
      have hc : w.cell? ⟨b, 0 + j, none⟩ = some (.int .u8 (atL l j)) := by
        rw [HP.out j (by have := HN.out; omega)]
      rw [Nat.zero_add, he, ← hx] at hc
      have h1 : (j : Int) < (n : Int) := by omega
      have h2 : (j : Int) < (m.size : Int) := by omega
      have hjn : j < n := by omega
      have hxx : (((m[j]'hjm).toNat : Int) != ((m[j]'hjm).toNat : Int)) = false := by simp
      clear hx he
      go_wp2
      go_quiet (fail)
      go_wp2
      go_roundg (n - (j + 1))
      case measure => omega
      case rel => exact ⟨j + 1, _, by omega, rfl, by go_num, rfl⟩
    · have hje : j = n := by omega
      subst hje
      have h2 : ¬ (j : Int) < (j : Int) := by omega
      have h3 : (j : Int) < (m.size : Int) := by omega
      clear hjk
      go_wp2
      go_quiet (fail)
      go_wp2
      go_ret2
      exact ⟨rfl, Below.drewN' (Below.drewN' (Below.refl _ _) _) _⟩
attribute [-go_sem] run_string_add_if run_convert_int_string in
set_option maxRecDepth 100000 in
set_option maxHeartbeats 800000 in
theorem lit_bad (l : List UInt8) (m : ByteArray) (b cap k : Nat) (w : World) (hp : BytesAt w b 0 l) (hlc : l.length ≤ cap) (_hcap : cap ≤ maxLen) (_hl : l.length ≤ 4000) (hm : m.size ≤ 4000) (hd : Hid (Parts l m.data.toList k)) (hkl : k < l.length) (hkm : k < m.size) (hT : Lib.Utf8Tabs 1 2 w) (hbw : b < w.heap.size) :
    Calls Tryd.prog 8 #[.slice (some ⟨b, 0, none⟩) l.length cap, .string m] w (BadPost k w) := by
  have HP := Lib.hid hp
  have HT := Lib.hid hT
  have hni : ∀ (W : World) (x : ByteArray), Lib.Utf8Tabs 1 2 W → BytesAt W b 0 l → b < W.heap.size → Calls Tryd.prog 12 #[.slice (some ⟨b, k, none⟩) (l.length - k) (cap - k), .string x] W (OwnPost W) := fun W x hT hp hb => by
    have e : l.length - k = (l.drop k).length := by simp
    rw [e]
    refine newInvalid (l.drop k) b k (cap - k) x W hT (fun i hi => ?_) (by simp; omega) (by simp; omega) hb
    have hil : k + i < l.length := by simp at hi; omega
    have := hp (k + i) hil
    rw [Nat.zero_add] at this
    rw [show atL (l.drop k) i = atL l (k + i) by simp [atL, List.getD_eq_getElem?_getD]]
    exact this
  clear hT
  clear hp
  obtain ⟨n, hn⟩ : ∃ n, n = l.length := ⟨_, rfl⟩
  rw [← hn] at hlc _hl hkl hni ⊢
  have HN := Lib.hid hn
  clear hn
  go_enter Tryd.func8, Tryd.ntmps8
  go_wp2
  go_loopg [6] k (fun q i wx => ∃ j z : Nat, j ≤ k ∧ q = k - j ∧ i = .int .i64 j ∧ wx = w.drewN z)
  case atStart => exact ⟨0, 0, Nat.zero_le _, rfl, rfl, rfl⟩
  case round =>
    obtain ⟨j, z, hj, rfl, rfl, rfl⟩ := hrel
    by_cases hjk : j < k
    · have hjm : j < m.size := by omega
      have hx : ((m[j]'hjm).toNat : Int) = atL m.data.toList j := at_eq m j hjm
      have he : atL l j = atL m.data.toList j := hd.out.2.2.1 j (by have := HN.out; omega)
      have hc : w.cell? ⟨b, 0 + j, none⟩ = some (.int .u8 (atL l j)) := by
        rw [HP.out j (by have := HN.out; omega)]
      rw [Nat.zero_add, he, ← hx] at hc
      have h1 : (j : Int) < (n : Int) := by omega
      have h2 : (j : Int) < (m.size : Int) := by omega
      have hjn : j < n := by omega
      have hxx : (((m[j]'hjm).toNat : Int) != ((m[j]'hjm).toNat : Int)) = false := by simp
      clear hx he
      go_wp2
      go_quiet (fail)
      go_wp2
      go_roundg (k - (j + 1))
      case measure => omega
      case rel => exact ⟨j + 1, _, by omega, rfl, by go_num, rfl⟩
    · have hje : j = k := by omega
      subst hje
      have hx : ((m[j]'hkm).toNat : Int) = atL m.data.toList j := at_eq m j hkm
      have he : ¬ atL l j = atL m.data.toList j := hd.out.2.2.2 (by have := HN.out; omega) (by rw [size_list]; exact hkm)
      have hc : w.cell? ⟨b, 0 + j, none⟩ = some (.int .u8 (atL l j)) := by
        rw [HP.out j (by have := HN.out; omega)]
      rw [Nat.zero_add] at hc
      have h1 : (j : Int) < (n : Int) := by omega
      have h2 : (j : Int) < (m.size : Int) := by omega
      have hxx : (atL l j != ((m[j]'hkm).toNat : Int)) = true := by rw [hx]; simpa using he
      have hjc : j ≤ cap := by omega
      have hjn : j ≤ n := by omega
      have hjne : ¬ cap = j := by omega
      have HNI := Lib.hid hni
      obtain ⟨S1, e1, z1⟩ := addS ⟨#[105, 110, 32, 108, 105, 116, 101, 114, 97, 108, 32]⟩ m 11 4000 (by decide) hm (by decide) (by decide)
      obtain ⟨S2, e2, z2⟩ := addS S1 ⟨#[32, 40, 101, 120, 112, 101, 99, 116, 105, 110, 103, 32]⟩ (11 + 4000) 12 z1 (by decide) (by decide) (by decide)
      obtain ⟨S3, e3, z3⟩ := addS S2 ⟨#[39]⟩ (11 + 4000 + 12) 1 z2 (by decide) (by decide) (by decide)
      obtain ⟨C, e4, z4⟩ := convC ((m[j]'hkm).toNat : Int)
      obtain ⟨S4, e5, z5⟩ := addS S3 C (11 + 4000 + 12 + 1) 4 z3 z4 (by decide) (by decide)
      obtain ⟨S5, e6, z6⟩ := addS S4 ⟨#[39]⟩ (11 + 4000 + 12 + 1 + 4) 1 z5 (by decide) (by decide) (by decide)
      obtain ⟨S6, e7, z7⟩ := addS S5 ⟨#[41]⟩ (11 + 4000 + 12 + 1 + 4 + 1) 1 z6 (by decide) (by decide) (by decide)
      clear hx he hjk hni z1 z2 z3 z4 z5 z6 z7
      generalize atL l j = y at hc hxx
      go_wp2
      go_quiet (fail)
      go_wp2
      go_region_with (go_at_call 12; refine (HNI.out _ _ ?_ ?_ ?_).mono ?_; exact HT.out; exact HP.out; exact hbw; rintro e w' ⟨⟨p, rfl⟩, hb⟩)
      all_goals (try go_wp2)
      all_goals (
        go_ret2
        exact ⟨⟨_, rfl⟩, hb.os, hb.tape, hb.output, hb.size, hb.block⟩)
end Go.Proofs.YtegfdgmbhnfeeaaDoor
