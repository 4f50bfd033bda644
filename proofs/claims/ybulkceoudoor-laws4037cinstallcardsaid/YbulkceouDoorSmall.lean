/-
  LawS4037CInstall: the small callees: TrailingZeros64, minus, all, forget (seat b4037aD).
-/
import Derived.Test.YbulkceouDoorRows
import Derived.Test.YbulkceouDoorBits
import Derived.Shelf.Spec.TrailingZeros
import Derived.WalkKit
import Derived.Laws.Rows
import Derived.WalkSpells
import Derived.WalkLawsBesides
import Derived.Outline
import Derived.Handy
import Derived.Deep.QuietTactic
import Derived.BigQuiet
import Derived.Deep.LoopGhost
import Derived.Laws.Pointers
import Derived.Lib.SmallJoins
import Derived.Deep.MidRow
import Derived.BigRegion
namespace Go.Proofs.YbulkceouDoor
open Go.RowKit

set_option maxHeartbeats 1000000 in
theorem tz_core (x k idx : Nat) (w : World) (hx0 : ((x : Int) == 0) = false)
    (key : IntKind.u64.wrap (bits BinOp.and IntKind.u64 (x : Int) (IntKind.u64.wrap (-(x : Int))) * 285870213051353865) / 288230376151711744 = (idx : Int))
    (hi : idx < 64) (hk : k < 64) (hcell : w.cell? ⟨0, idx, none⟩ = some (.int .u8 k)) :
    Calls Ybad.prog 10 #[.int .u64 x] w fun e w' => e = .returned (.int .i64 k) ∧ w' = w := by
  go_enter Ybad.func10, Ybad.ntmps10
  go_wp2_with (simp only [key])
  go_ret
  exact ⟨rfl, rfl⟩

/-- math/bits.TrailingZeros64 at a word that is not 0. -/
theorem tz (x : Nat) (hx : x < 2 ^ 64) (hx0 : x ≠ 0) (w : World) (hT : TabAt 0 Lib.deBruijn64tab w) :
    Calls Ybad.prog 10 #[.int .u64 x] w fun e w' => e = .returned (.int .i64 (Lib.ctz 64 x)) ∧ w' = w := by
  obtain ⟨hlow, hk⟩ := Lib.lowest_bit 64 x hx0 hx
  obtain ⟨hi, htab⟩ := Lib.deBruijn64_at _ hk
  have hcell := hT _ hi
  rw [htab] at hcell
  exact tz_core x _ _ w (by simp; omega) (tz64_key x _ hx hx0 hlow) hi hk hcell

theorem size26 : (Ybad.prog.info? 26).map (·.size) = some 2 := by kernel_rfl

theorem alloc_at (w : World) (o : Obj) (k : Nat) : (w.alloc o).heap[k]? = if k = w.heap.size then some o else w.heap[k]? := by
  by_cases h : k = w.heap.size
  · subst h; rw [if_pos rfl]; exact (MapKept.heap_alloc _ _).1
  · rw [if_neg h]
    by_cases h2 : k < w.heap.size
    · exact Below.heap_alloc _ _ _ h2
    · rw [Array.getElem?_eq_none (by simp; omega), Array.getElem?_eq_none (by omega)]

set_option maxHeartbeats 1000000 in
/-- (memberSet).minus. -/
theorem minus (a b c d : Int) (w : World) :
    Calls Ybad.prog 5 #[.agg #[.int .u64 a, .int .u64 b], .agg #[.int .u64 c, .int .u64 d]] w fun e w' => e = .returned (.agg #[.int .u64 (bits .andNot .u64 a c), .int .u64 (bits .andNot .u64 b d)]) ∧ Below w.heap.size w w' := by
  go_enter Ybad.func5, Ybad.ntmps5
  go_wp2
  go_loopg [6] 3 (fun k vi wr => ∃ i : Nat, vi = .int .i64 i ∧ i ≤ 2 ∧ 2 - i < k ∧ Below w.heap.size w wr ∧
    wr.heap[w.heap.size]? = some (.cells #[.int .u64 (if 1 ≤ i then bits .andNot .u64 a c else a), .int .u64 (if 2 ≤ i then bits .andNot .u64 b d else b)] 26 (0, 0)) ∧
    wr.heap[w.heap.size + 1]? = some (.cells #[.int .u64 c, .int .u64 d] 26 (0, 0)) ∧
    wr.heap[w.heap.size + 1 + 1]? = some (.cells #[.int .u64 0, .int .u64 0] 26 (0, 0)))
  case atStart =>
    refine ⟨0, rfl, by omega, by omega, ?_, ?_, ?_, ?_⟩
    · exact (((Below.refl _ _).alloc (Nat.le_refl _) _).alloc (by simp) _).alloc (by simp; omega) _
    · rw [alloc_at, if_neg (by simp; omega), alloc_at, if_neg (by simp), alloc_at, if_pos rfl]; rfl
    · rw [alloc_at, if_neg (by simp), alloc_at, if_pos (by simp)]
    · rw [alloc_at, if_pos (by simp)]
  case round =>
    obtain ⟨i, rfl, hi2, hk, hb, h0, h1, h2⟩ := hrel
    by_cases hlt : i < 2
    · have hi2' : (i : Int) < 2 := by omega
      have c0 := Joins.cell_of_block h0 i
      have f0 := Joins.unfrozen_of_block h0 i
      have c1 := Joins.cell_of_block h1 i
      have A : Aside (Below w.heap.size w wr ∧ wr.heap[w.heap.size]? = some (.cells #[.int .u64 (if 1 ≤ i then bits .andNot .u64 a c else a), .int .u64 (if 2 ≤ i then bits .andNot .u64 b d else b)] 26 (0, 0)) ∧ wr.heap[w.heap.size + 1]? = some (.cells #[.int .u64 c, .int .u64 d] 26 (0, 0)) ∧ wr.heap[w.heap.size + 1 + 1]? = some (.cells #[.int .u64 0, .int .u64 0] 26 (0, 0))) := ⟨hb, h0, h1, h2⟩
      clear hb h0 h1 h2
      rcases (show i = 0 ∨ i = 1 by omega) with rfl | rfl
      · simp at c0 c1
        go_wp2
        go_region
        go_wp2
        go_roundg (2 - 0)
        case measure => omega
        case rel =>
          obtain ⟨hb, h0, h1, h2⟩ := A.out
          refine ⟨1, by go_num, by omega, by omega, ?_, ?_, ?_, ?_⟩
          · exact (hb.setCell (p := ⟨w.heap.size, 0, none⟩) (Nat.le_refl _) _).drew
          · exact (Joins.block_setCell (i := 0) h0 (.int .u64 (bits .andNot .u64 a c))).trans (by simp)
          · exact (Below.heap_setCell _ _ _ _ (by simp)).trans h1
          · exact (Below.heap_setCell _ _ _ _ (by simp; omega)).trans h2
      · simp at c0 c1
        go_wp2
        go_region
        go_wp2
        go_roundg (2 - 1)
        case measure => omega
        case rel =>
          obtain ⟨hb, h0, h1, h2⟩ := A.out
          refine ⟨2, by go_num, by omega, by omega, ?_, ?_, ?_, ?_⟩
          · exact (hb.setCell (p := ⟨w.heap.size, 1, none⟩) (Nat.le_refl _) _).drew
          · exact (Joins.block_setCell (i := 1) h0 (.int .u64 (bits .andNot .u64 b d))).trans (by simp)
          · exact (Below.heap_setCell _ _ _ _ (by simp)).trans h1
          · exact (Below.heap_setCell _ _ _ _ (by simp; omega)).trans h2
    · obtain rfl : i = 2 := by omega
      simp at h0
      have c0 := Joins.cell_of_block h0 0
      have c1 := Joins.cell_of_block h0 1
      have d0 := Joins.cell_of_block h2 0
      have d1 := Joins.cell_of_block h2 1
      have g0 := Joins.unfrozen_of_block h2 0
      have g1 := Joins.unfrozen_of_block h2 1
      simp at c0 c1 d0 d1
      go_wp2
      have hg := Joins.block_setCell (i := 1) (Joins.block_setCell (i := 0) h2 (.int .u64 (bits .andNot .u64 a c))) (.int .u64 (bits .andNot .u64 b d))
      refine bodyPost_ret (results_cell_row Ybad.results5 _ _ (w.heap.size + 1 + 1) 26 _ (0, 0) _ rfl hg Ybad.underlying26 rfl size26) rfl ?_
      exact ⟨rfl, (hb.setCell (p := ⟨w.heap.size + 1 + 1, 0, none⟩) (by simp; omega) _).setCell (p := ⟨w.heap.size + 1 + 1, 1, none⟩) (by simp; omega) _⟩

/-- (memberSet).all: the closure over a box of the set. -/
theorem all (a b : Int) (w : World) :
    Calls Ybad.prog 6 #[.agg #[.int .u64 a, .int .u64 b]] w fun e w' => e = .returned (.func (.func 9) #[] #[.pointer (some ⟨w.heap.size, 0, none⟩)]) ∧ w' = w.alloc (.cells #[.int .u64 a, .int .u64 b] 26) := by
  go_enter Ybad.func6, Ybad.ntmps6
  go_wp2
  go_ret
  exact ⟨rfl, rfl⟩
end Go.Proofs.YbulkceouDoor
