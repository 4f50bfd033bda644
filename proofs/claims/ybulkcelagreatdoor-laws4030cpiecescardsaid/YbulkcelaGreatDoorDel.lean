/-
  slices.Delete of the one term (seat b4030aZD).
-/
import Derived.Test.YbulkcelaGreatDoorTiny
import Derived.Deep.Upon
import Derived.Lib.SliceRun
namespace Go.Proofs.YbulkcelaGreatDoor
open Go.RowKit Go.MapKept Go.Lib Go.Shelf Go.Maps

theorem Ybaz.underlying149 : Ybaz.prog.underlying 149 = some (.slice 154) := by kernel_rfl

abbrev tmZ : Value := .agg #[.pointer none, .slice none 0 0, .int .i64 0]
theorem Ybaz.info154 : (Ybaz.prog.info? 154).map (fun i => (i.zero, i.size, i.bytes)) = some (some tmZ, 3, 40) := by kernel_rfl
set_option maxRecDepth 100000 in
theorem zero154 (W : World) : (zeroValue 154).run Ybaz.prog W = .ok tmZ W := by rfl

theorem clear_term (w : World) (tb : Nat) (cur : Array Value) (hb : w.heap[tb]? = some (.cells cur 154 (0, 0))) (hs : cur.size = 3) :
    (Builtin.clear_ #[149] 0 #[.slice (some ⟨tb, 0, none⟩) 1 1]).run Ybaz.prog w = .ok (.tuple #[]) (w.setCells tb 0 [.pointer none, .slice none 0 0, .int .i64 0]) := by
  have hst := run_storeCells_cells (P := Ybaz.prog) tb 0 [.pointer none, .slice none 0 0, .int .i64 0] 0 w (fun j hj => by
      have hj : j < 3 := hj
      rw [show (0 + 0 + j) = j by omega, Joins.cell_of_block hb j]
      simp [hs, hj]) (fun j hj => by rw [show (0 + 0 + j) = j by omega]; exact Joins.unfrozen_of_block hb j) (by intro v hv; simp at hv; rcases hv with rfl | rfl | rfl <;> rfl)
  have hzc : (Builtin.zeroCells tmZ.cells 1).toList = [.pointer none, .slice none 0 0, .int .i64 0] := by kernel_rfl
  simp only [Nat.add_zero] at hst
  simp [Builtin.clear_, run_underlying Ybaz.underlying149, zero154 w, hzc, hst]

theorem src_none (p : Option Addr) (W : World) {n : Nat} : Src Ybaz.prog n 149 (.slice p 0 0) 0 [] W := by
  cases p with
  | none => exact ⟨.inl ⟨_, Ybaz.underlying149⟩, fun w' => by simp [Builtin.lenOf], by simp [Builtin.firstCells], by simp [Builtin.firstCells], by simp, by simp⟩
  | some a => exact Src.ofSlice W Ybaz.underlying149 a 0 0 [] (by simp) (by simp) (by simp)

set_option maxRecDepth 100000 in
theorem del73 (tb : Nat) (cur : Array Value) (w : World) (hb : w.heap[tb]? = some (.cells cur 154 (0, 0))) (hs : cur.size = 3) :
    Calls Ybaz.prog 73 #[.slice (some ⟨tb, 0, none⟩) 1 1, .int .i64 0, .int .i64 1] w fun e w' => e = .returned (.slice (some ⟨tb, 0, none⟩) 0 1) ∧ w' = w.drew.setCells tb 0 [.pointer none, .slice none 0 0, .int .i64 0] := by
  have hcl := clear_term w.drew tb cur hb hs
  obtain ⟨i0, hi, hz0, hz1, hz2⟩ := info_parts Ybaz.info154
  have hap : ∀ (p : Option Addr) (W : World), (Builtin.append_ #[149, 149] 149 #[.slice (some ⟨tb, 0, none⟩) 0 1, .slice p 0 0]).run Ybaz.prog W = .ok (.slice (some ⟨tb, 0, none⟩) 0 1) W := fun p W => by
    refine run_append_nothing (P := Ybaz.prog) W 149 149 149 154 i0 Ybaz.underlying149 hi _ 0 1 (by omega) _ ?_
    exact src_none p W
  go_enter Ybaz.func73, Ybaz.ntmps73
  go_wp2
  go_region
  rename_i K1 hK1
  refine hK1 _ _ ?_
  clear hK1
  go_wp2
  go_ret
  exact ⟨rfl, rfl⟩
end Go.Proofs.YbulkcelaGreatDoor
