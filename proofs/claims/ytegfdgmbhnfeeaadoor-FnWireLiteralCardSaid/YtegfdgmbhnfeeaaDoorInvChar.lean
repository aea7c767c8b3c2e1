/- jsonwire.NewInvalidCharacterError, walked: it makes an error of the program's own type. -/
import Derived.Test.YtegfdgmbhnfeeaaDoorDec
import Derived.Test.YtegfdgmbhnfeeaaDoorBuf
import Derived.Test.YtegfdgmbhnfeeaaDoorClose
import Derived.Deep.RegionWith
import Derived.Lib.Hide
namespace Go.Proofs.YtegfdgmbhnfeeaaDoor
open Go.RowKit
def OwnPost (w : World) (e : Ending) (w' : World) : Prop := (∃ p : Addr, e = .returned (.iface 48 (.pointer (some p)))) ∧ Below w.heap.size w w'
set_option maxRecDepth 100000 in
theorem newInvalid (l : List UInt8) (b off cap : Nat) (x : ByteArray) (w : World) (hT : Lib.Utf8Tabs 1 2 w) (hp : BytesAt w b off l) (hl : 0 < l.length) (hlc : l.length ≤ cap) (hbw : b < w.heap.size) :
    Calls Tryd.prog 12 #[.slice (some ⟨b, off, none⟩) l.length cap, .string x] w (OwnPost w) := by
  have hd := decodeRune l b off cap w hT hp hl
  have h1 := decN_two l hl
  have h2 := decW_range l hl
  rw [← h1] at h2
  clear h1
  generalize decN l = q at hd h2
  obtain ⟨r, m⟩ := q
  simp only at hd h2
  have hm : m ≤ l.length := by omega
  have hmc : m ≤ cap := by omega
  have hm0 : 1 ≤ m := by omega
  have HD := Lib.hid hd
  have HP := Lib.hid hp
  clear hd h2 hp
  go_enter Tryd.func12, Tryd.ntmps12
  go_wp2_with fail
  refine HD.out.mono ?_
  rintro e w' ⟨rfl, hb⟩
  have HB := Lib.hid hb
  have hcv : (convert 34 9 (.slice (some ⟨b, off, none⟩) m cap)).run Tryd.prog w' = .ok (.string (strOfNums ((List.range m).map (atL l)))) w' :=
    run_convert_bytes_arg _ _ 5 Tryd.underlying34 Tryd.underlying5 b off m cap _ (by simp) (fun i hi => by
      have hil : i < l.length := by omega
      rw [World.cell?_of_block (a := ⟨b, off + i, none⟩) (hb.block b hbw), HP.out i (by omega)]
      simp [atL, List.getD_eq_getElem?_getD, hi, hil]) 9 Tryd.underlying9
  generalize strOfNums ((List.range m).map (atL l)) = y at hcv
  clear hb HD HP
  go_wp2
  go_ret
  exact ⟨⟨_, rfl⟩, HB.out.alloc HB.out.size _⟩
end Go.Proofs.YtegfdgmbhnfeeaaDoor
