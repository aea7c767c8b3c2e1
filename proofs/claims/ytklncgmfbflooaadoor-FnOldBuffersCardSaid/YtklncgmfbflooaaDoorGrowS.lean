/- bytes.growSlice, walked: of a slice of bytes that lies in a row, whatever its freeze: a new row. -/
import Derived.Test.YtklncgmfbflooaaDoorBuf
import Derived.Shelf.Bytes.GrowSliceCatch
import Derived.Lib.AppendZeros
import Derived.Lib.Hide
import Derived.Laws.CopyRow
import Derived.WalkKit
import Derived.Defers
import Derived.Recover
import Derived.KernelRfl
namespace Go.Proofs.YtklncgmfbflooaaDoor
open Go.RowKit
def renCatch : Go.Shelf.Ren := ⟨fun | 324 => 92 | n => n, fun | 0 => 0 | 4 => 4 | 20 => 20 | 75 => 65 | 9 => 9 | 80 => 57 | n => n, fun | 14 => 2 | n => n⟩
theorem laysCatch : Go.Proofs.LaysM.n324 Tryd.prog renCatch :=
  { mixed := by kernel_rfl,
    f324 := Tryd.func92.trans (congrArg some (by kernel_rfl)),
    t0 := Tryd.underlying0,
    a0 := Tryd.isAgg0,
    z0 := Tryd.sizeOf0,
    v0 := Tryd.zeroValue0,
    i0 := by kernel_rfl,
    t4 := Tryd.underlying4,
    a4 := Tryd.isAgg4,
    z4 := Tryd.sizeOf4,
    v4 := Tryd.zeroValue4,
    i4 := by kernel_rfl,
    t20 := Tryd.underlying20,
    a20 := Tryd.isAgg20,
    z20 := Tryd.sizeOf20,
    v20 := Tryd.zeroValue20,
    i20 := by kernel_rfl,
    t75 := Tryd.underlying65,
    a75 := Tryd.isAgg65,
    z75 := Tryd.sizeOf65,
    v75 := Tryd.zeroValue65,
    i75 := by kernel_rfl,
    t9 := Tryd.underlying9,
    a9 := Tryd.isAgg9,
    z9 := Tryd.sizeOf9,
    v9 := Tryd.zeroValue9,
    i9 := by kernel_rfl,
    t80 := Tryd.underlying57,
    a80 := Tryd.isAgg57,
    z80 := Tryd.sizeOf57,
    v80 := Tryd.zeroValue57,
    i80 := by kernel_rfl,
    g14 := by kernel_rfl,
    m14 := by kernel_rfl }
/-- What it returns: a slice of as many bytes at the head of a new row, with room for n more. -/
def GrowPost (L : List UInt8) (n : Nat) (w : World) (e : Ending) (w' : World) : Prop :=
  ∃ cap2, e = .returned (.slice (some ⟨w.heap.size, 0, none⟩) L.length cap2) ∧ L.length + n ≤ cap2 ∧ Buf w' w.heap.size none (.slice (some ⟨w.heap.size, 0, none⟩) L.length cap2) L ∧ Below w.heap.size w w'
set_option maxHeartbeats 2000000 in
set_option maxRecDepth 100000 in
theorem growSlice (g o c n : Nat) (L : List UInt8) (w : World) (hb : BytesAt w g o L) (hn : 1 ≤ n) (hlim : L.length + n ≤ 1000000000) (hlc : L.length ≤ c) (hcn : c < L.length + n) :
    Calls Tryd.prog 81 #[.slice (some ⟨g, o, none⟩) L.length c, .int .i64 n] w (GrowPost L n w) := by
  obtain ⟨i0, hi, hz0, hz1, hz2⟩ := info_parts infoU8
  have hsz1 : (Tryd.prog.info? 5).map (·.size) = some 1 := by rw [hi]; simp [hz1]
  obtain ⟨C, hC⟩ : ∃ C : Nat, C = if L.length + n < 2 * c then 2 * c else L.length + n := ⟨_, rfl⟩
  have hCl : L.length + n ≤ C ∧ C ≤ 2000000000 := by rw [hC]; split <;> omega
  obtain ⟨hC1, hC2⟩ := hCl
  have happ := Lib.run_append_nil_zeros (P := Tryd.prog) w 56 3 56 5 i0 (.int .u8 0) .i64 .i64 Tryd.underlying56 Tryd.underlying3 hi hz0 C (by omega) (by omega) (by omega) (by rw [hz2]; omega)
  generalize hcap : grownCap w C 0 5 = cap2 at happ
  have hcapge : C ≤ cap2 := by rw [← hcap]; exact grownCap_ge w _ 0 5
  have hcaple : cap2 ≤ maxLen := by rw [← hcap]; exact grownCap_le_maxLen w _ 0 5 (by unfold maxLen; omega)
  generalize hZ : (Builtin.zeroCells (Value.int .u8 0).cells C ++ Builtin.zeroCells (Value.int .u8 0).cells (cap2 - C)) = Z at happ
  have hZs : Z.size = cap2 := by rw [← hZ]; simp [size_zeroCells, Value.cells]; omega
  clear hcap hZ
  have hsrc : ∀ j v, (nums L)[j]? = some v → (w.alloc (.cells Z 5)).drew.cell? ((⟨g, o, none⟩ : Addr).add j) = some v := fun j v hv => by
    obtain ⟨hj, rfl⟩ := nums_get_iff hv
    rw [addr_add]
    have h1 := hb j hj
    have hg : g < w.heap.size := by
      unfold World.cell? at h1
      rcases Nat.lt_or_ge g w.heap.size with h5 | h5
      · exact h5
      · rw [Array.getElem?_eq_none (by exact h5)] at h1; cases h1
    exact (World.cell?_of_block (a := ⟨g, o + j, none⟩) (RowKit.Below.heap_alloc w (.cells Z 5) g hg)).trans h1
  have hcopy := run_copy_row (P := Tryd.prog) (w.alloc (.cells Z 5)).drew 56 56 3 5 w.heap.size 0 C cap2 ⟨g, o, none⟩ L.length c Z 5 (nums L) Tryd.underlying56 hsz1 (heap_alloc_new w _) (by rw [nums_length]; exact (Nat.min_eq_left (by omega)).symm) hsrc (by rw [nums_length]; omega) (nums_one L)
  rw [nums_length] at hcopy
  generalize hY : (Z.toList.take 0 ++ nums L ++ Z.toList.drop (0 + L.length)).toArray = Y at hcopy
  have hYl : Y.toList = nums L ++ Z.toList.drop L.length := by rw [← hY]; simp
  have hYs : Y.size = cap2 := by
    have h1 := congrArg List.length hYl
    rw [List.length_append, nums_length, List.length_drop] at h1
    have h2 : Z.toList.length = Z.size := Array.length_toList
    have h3 : Y.toList.length = Y.size := Array.length_toList
    omega
  have hfin : Hid (GrowPost L n w (.returned (.slice (some ⟨w.heap.size, 0, none⟩) L.length cap2)) ((w.alloc (.cells Z 5)).drew.setRow w.heap.size Y)) := by
    refine ⟨cap2, rfl, by omega, .inr ⟨w.heap.size, 0, cap2, Y, (0, 0), rfl, .inl (Nat.le_refl _), setRow_heap _ _ Z Y 5 (0, 0) (heap_alloc_new w _), by omega, hcaple, by omega, .inl (Nat.zero_le _), fun j hj => ?_⟩, ⟨rfl, rfl, rfl, by simp, fun k hk => by rw [setRow_other _ _ _ _ (by omega)]; exact RowKit.Below.heap_alloc w _ k hk⟩⟩
    rw [Nat.zero_add, ← Array.getElem?_toList, hYl, List.getElem?_append_left (by rw [nums_length]; exact hj)]
    exact nums_get L j hj
  have hcC : (c : Int) ≤ 1000000000 := by omega
  have hLC : Hid (¬ ((C : Int) < (L.length : Int))) := by show ¬ _; omega
  clear hb hsrc hYl hYs hz1 hz2 hi hz0 hsz1 hY hZs
  generalize L.length = len at hlim hlc hcn hC1 hcopy hC hfin hLC ⊢
  by_cases hq : len + n < 2 * c
  · rw [if_pos hq] at hC
    subst hC
    rw [show (((2 * c : Nat)) : Int) = 2 * (c : Int) by omega] at happ
    go_enter_defers Tryd.func81, Tryd.ntmps81
    go_wp2_with (at_builtin; refine Lib.wpList_append_run _ rfl _ _ _ _ rfl _ _ rfl rfl _ _ happ ?_)
    refine leaves_cons (f := 92) (args := #[]) (by simp) (by simp [go_sem]) ?_
    refine (Any.growSlice_catch_idle laysCatch _).mono ?_
    rintro e u' w'' ⟨rfl, rfl, rfl⟩
    refine ⟨_, results_tmp rfl _ _ _, ?_⟩
    exact hfin.out
  · rw [if_neg hq] at hC
    subst hC
    rw [show (((len + n : Nat)) : Int) = (len : Int) + (n : Int) by omega] at happ
    go_enter_defers Tryd.func81, Tryd.ntmps81
    go_wp2_with (at_builtin; refine Lib.wpList_append_run _ rfl _ _ _ _ rfl _ _ rfl rfl _ _ happ ?_)
    refine leaves_cons (f := 92) (args := #[]) (by simp) (by simp [go_sem]) ?_
    refine (Any.growSlice_catch_idle laysCatch _).mono ?_
    rintro e u' w'' ⟨rfl, rfl, rfl⟩
    refine ⟨_, results_tmp rfl _ _ _, ?_⟩
    exact hfin.out
end Go.Proofs.YtklncgmfbflooaaDoor
