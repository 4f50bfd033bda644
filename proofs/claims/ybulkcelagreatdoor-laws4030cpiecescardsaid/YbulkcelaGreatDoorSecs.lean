/-
  timespan.Seconds, and the floats (seat b4030aZD).
-/
import Derived.Test.YbulkcelaGreatDoorTime
import Derived.Test.YbulkcelaGreatDoorFloat
namespace Go.Proofs.YbulkcelaGreatDoor
open Go.RowKit Go.Sort

set_option maxRecDepth 100000 in
set_option maxHeartbeats 1000000 in
theorem seconds18 (x y : Int) (x0 : -4000000000 ≤ x) (x1 : x ≤ 4000000000) (y0 : -4000000000 ≤ y) (y1 : y ≤ 4000000000) (w : World) :
    Calls Ybaz.prog 18 #[tv x, tv y] w fun r w' => r = .returned (.float .f64 (fi (y - x))) ∧ Lays w w' := by
  have mixed : Ybaz.prog.follows .mixedOrders = true := by kernel_rfl
  have hw0 : IntKind.i64.wrap 0 = 0 := by decide
  have hwd : IntKind.i64.wrap (y - 62135596800 - (x - 62135596800)) = y - x := (IntWalk.i64_left _).trans (by unfold wrap64; omega)
  have hq := fun W => run_float_arith (P := Ybaz.prog) W .quo 53 .f64 _ _ _ fi_quo0
  have ha := fun W => run_float_arith (P := Ybaz.prog) W .add 53 .f64 _ _ _ (fi_add0 (y - x) (by omega))
  unfold fi at hq ha ⊢
  have hux := fun W => unix31 x (by omega) (by omega) W
  have huy := fun W => unix31 y (by omega) (by omega) W
  have hnx := fun W => nano32 x W
  have hny := fun W => nano32 y W
  go_enter Ybaz.func18, Ybaz.ntmps18
  go_wp2
  obtain ⟨W, hW⟩ : ∃ W, (w.alloc (.cells #[.int .u64 0, .int .i64 x, .pointer none] 29)).alloc (.cells #[.int .u64 0, .int .i64 y, .pointer none] 29) = W := ⟨_, rfl⟩
  have hx1 : W.heap[w.heap.size]? = some (.cells #[.int .u64 0, .int .i64 x, .pointer none] 29 (0, 0)) := by rw [← hW, alloc_at, if_neg (by simp), alloc_at, if_pos rfl]
  have hx2 : W.heap[w.heap.size + 1]? = some (.cells #[.int .u64 0, .int .i64 y, .pointer none] 29 (0, 0)) := by rw [← hW, alloc_at, if_pos (by simp)]
  have hs2 : W.heap.size = w.heap.size + 1 + 1 := by rw [← hW]; simp
  have l1 : w.heap.size < W.heap.size := by omega
  have l2 : w.heap.size + 1 < W.heap.size := by omega
  rw [hW]
  have a0 := cell_grown (a := ⟨w.heap.size, 0, none⟩) l1 (Joins.cell_of_block hx1 0)
  have a1 := cell_grown (a := ⟨w.heap.size, 1, none⟩) l1 (Joins.cell_of_block hx1 1)
  have a2 := cell_grown (a := ⟨w.heap.size, 2, none⟩) l1 (Joins.cell_of_block hx1 2)
  have b0 := cell_grown (a := ⟨w.heap.size + 1, 0, none⟩) l2 (Joins.cell_of_block hx2 0)
  have b1 := cell_grown (a := ⟨w.heap.size + 1, 1, none⟩) l2 (Joins.cell_of_block hx2 1)
  have b2 := cell_grown (a := ⟨w.heap.size + 1, 2, none⟩) l2 (Joins.cell_of_block hx2 2)
  have hL : Lays w W := by rw [← hW]; exact lays_two _ _ _
  have hAL : Aside (Lays w W) := hL
  clear hL hW
  go_quiet_grown (first
    | (go_at_call 31; exact Calls.grown_of (hux _))
    | (go_at_call 31; exact Calls.grown_of (huy _))
    | (go_at_call 32; exact Calls.grown_of (hnx _))
    | (go_at_call 32; exact Calls.grown_of (hny _)))
  go_wp2
  go_ret
  exact ⟨rfl, hAL.out.trans ⟨_, _, rfl⟩⟩
end Go.Proofs.YbulkcelaGreatDoor
