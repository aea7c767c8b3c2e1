/- impl.offset (the offset that a syntax error tells): errors.AsType on the package's own error, and on none; walked. -/
import Derived.Test.YtklncgmfbflooaaDoorScanAt
import Derived.Test.YtklncgmfbflooaaDoorPlain
import Derived.WalkKit
import Derived.Stop.Asserts
namespace Go.Proofs.YtklncgmfbflooaaDoor
open Go.RowKit Go.Extern.Stop Go.Stop Go.Extern
theorem isSyn (v : Value) (xT : TypeId) (w : World) : (Instr.typeAssert (.iface 94 v) xT 94 true).run Tryd.prog w = .ok (.tuple #[v, .bool true]) w := by
  simp [Instr.typeAssert, run_underlying Tryd.underlying94, go_sem, Result.andThen]
set_option maxRecDepth 100000 in
theorem asTypeS (p : Nat) (q : Value) (w : World) :
    Calls Tryd.prog 72 #[.iface 94 (.pointer (some ⟨p, 0, none⟩)), q] w fun e w' => e = .returned (.tuple #[.pointer (some ⟨p, 0, none⟩), .bool true]) ∧ w' = w := by
  have hty := isSyn
  go_enter Tryd.func72, Tryd.ntmps72
  go_wp2
  refine wp_loop_rounds 1 ?_
  rw [rounds_succ]
  go_wp2
  go_ret2
  exact ⟨rfl, rfl⟩
set_option maxRecDepth 100000 in
theorem asTypeP (p : Nat) (w : World) :
    Calls Tryd.prog 55 #[.iface 94 (.pointer (some ⟨p, 0, none⟩))] w fun e w' => e = .returned (.tuple #[.pointer (some ⟨p, 0, none⟩), .bool true]) ∧ Below w.heap.size w w' := by
  go_enter Tryd.func55, Tryd.ntmps55
  go_wp2_with fail
  refine (asTypeS p _ _).mono ?_
  rintro e w' ⟨rfl, rfl⟩
  go_wp2
  go_ret2
  exact ⟨rfl, (Below.refl _ _).alloc (Nat.le_refl _) _⟩
def OffPost (w : World) (e : Ending) (w' : World) : Prop := (∃ v : Int, e = .returned (.int .i64 v)) ∧ Below w.heap.size w w'
set_option maxRecDepth 100000 in
theorem offsetErr (p : Nat) (w : World) (h : SynAt w p) :
    Calls Tryd.prog 35 #[.iface 94 (.pointer (some ⟨p, 0, none⟩))] w (OffPost w) := by
  obtain ⟨m, k, hk⟩ := h
  have hlt := (Array.getElem?_eq_some_iff.1 hk).1
  have HC : Hid (∀ w', Below w.heap.size w w' → w'.cell? ⟨p, 1, none⟩ = some (.int .i64 k)) := Lib.hid fun w' hb => by
    rw [hb.cell (p := ⟨p, 1, none⟩) hlt]
    rw [cell_of_row w p 1 _ _ _ hk]
    rfl
  clear hk hlt
  go_enter Tryd.func35, Tryd.ntmps35
  go_wp2_with fail
  refine (asTypeP p w).mono ?_
  rintro e w' ⟨rfl, hb⟩
  have c1 := HC.out w' hb
  have HB := Lib.hid hb
  clear hb HC
  go_wp2
  go_ret
  exact ⟨⟨_, rfl⟩, HB.out⟩
set_option maxRecDepth 100000 in
theorem offsetNil (w : World) : Calls Tryd.prog 35 #[.nilIface] w (OffPost w) := by
  have HN : Hid (Calls Tryd.prog 55 #[.nilIface] w fun e w' => e = .returned (.tuple #[.pointer none, .bool false]) ∧ w' = w) := Lib.hid (by
    go_enter Tryd.func55, Tryd.ntmps55
    go_wp2
    go_ret2
    exact ⟨rfl, rfl⟩)
  go_enter Tryd.func35, Tryd.ntmps35
  go_wp2_with fail
  refine HN.out.mono ?_
  rintro e w' ⟨rfl, rfl⟩
  go_wp2
  go_ret
  exact ⟨⟨_, rfl⟩, Below.refl _ _⟩
end Go.Proofs.YtklncgmfbflooaaDoor
