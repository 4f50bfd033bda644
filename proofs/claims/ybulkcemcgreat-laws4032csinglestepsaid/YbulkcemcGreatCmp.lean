/-
  LawS4032CSingleStep: the comparisons (seat b4032aZ).
-/
import Derived.Test.YbulkcemcGreatMath
import Derived.Deep.RegionHeld
import Derived.Deep.RegionHeldLaw
import Derived.Shelf.SlSortCmp.InsertionK
namespace Go.Proofs.YbulkcemcGreat
open Go.RowKit Go.Shelf Go.Lib Go.Sort

/-- -1, 0 or 1. -/
def cmpI (x y : Int) : Int := if x < y then -1 else if y < x then 1 else 0

set_option maxHeartbeats 1000000 in
theorem cmp15 (x y : Int) (w : World) : Calls Ybaz.prog 15 #[.int .i64 x, .int .i64 y] w fun e w' => e = .returned (.int .i64 (cmpI x y)) ∧ w' = w := by
  unfold cmpI
  by_cases h1 : x < y
  · go_enter Ybaz.func15, Ybaz.ntmps15
    go_wp2
    go_ret
    exact ⟨by simp, rfl⟩
  · by_cases h2 : y < x
    · go_enter Ybaz.func15, Ybaz.ntmps15
      go_wp2
      go_ret
      exact ⟨by simp, rfl⟩
    · go_enter Ybaz.func15, Ybaz.ntmps15
      go_wp2
      go_ret
      exact ⟨by simp, rfl⟩

set_option maxHeartbeats 1000000 in
theorem cmp55 (x y : Int) (w : World) : Calls Ybaz.prog 55 #[.int .i64 x, .int .i64 y] w fun e w' => e = .returned (.int .i64 (cmpI x y)) ∧ w' = w := by
  unfold cmpI
  by_cases h1 : x < y
  · go_enter Ybaz.func55, Ybaz.ntmps55
    go_wp2
    go_ret
    exact ⟨by simp, rfl⟩
  · by_cases h2 : y < x
    · go_enter Ybaz.func55, Ybaz.ntmps55
      go_wp2
      go_ret
      exact ⟨by simp, rfl⟩
    · go_enter Ybaz.func55, Ybaz.ntmps55
      go_wp2
      go_ret
      exact ⟨by simp, rfl⟩

set_option maxHeartbeats 1000000 in
theorem cmp54 (w : World) : Calls Ybaz.prog 54 #[.float .f64 0, .float .f64 0] w fun e w' => e = .returned (.int .i64 0) ∧ w' = w := by
  have ho : FloatKind.f64.format.order 0 0 = some Ordering.eq := by kernel_rfl
  go_enter Ybaz.func54, Ybaz.ntmps54
  go_wp2
  go_ret
  exact ⟨rfl, rfl⟩

set_option maxHeartbeats 1000000 in
theorem or53 (g : Nat) (x : Int) (w : World) (h0 : w.cell? ⟨g, 0, none⟩ = some (.int .i64 0)) (h1 : w.cell? ⟨g, 1, none⟩ = some (.int .i64 x)) : Calls Ybaz.prog 53 #[.slice (some ⟨g, 0, none⟩) 2 2] w fun e w' => e = .returned (.int .i64 x) ∧ w' = w := by
  go_enter Ybaz.func53, Ybaz.ntmps53
  go_wp2
  go_loopg [8] 3 (fun q vi wr => ∃ i : Nat, vi = .int .i64 i ∧ i ≤ 2 ∧ 2 - i < q ∧ wr = w ∧ (i = 2 → x = 0))
  case atStart => exact ⟨0, rfl, by omega, by omega, rfl, by omega⟩
  case round =>
    obtain ⟨i, rfl, hi, hq, rfl, hx⟩ := hrel
    rcases (show i = 0 ∨ i = 1 ∨ i = 2 by omega) with rfl | rfl | rfl
    · go_wp2
      go_roundg (2 - 0)
      case measure => omega
      case rel => exact ⟨1, by go_num, by omega, by omega, rfl, by omega⟩
    · by_cases hx0 : x = 0
      · subst hx0
        go_wp2
        go_roundg (2 - 1)
        case measure => omega
        case rel => exact ⟨2, by go_num, by omega, by omega, rfl, by simp⟩
      · have hne : (x != 0) = true := by simpa using hx0
        go_wp2
        go_ret
        exact ⟨rfl, rfl⟩
    · obtain rfl := hx rfl
      go_wp2
      go_ret
      exact ⟨rfl, rfl⟩

/-- Only how a region ends in order is asked of it. -/
theorem wp_normal {P : Program} {c : Code} {Q : Exit → Act → World → Prop} {a : Act} {w : World} (h : c.wp P (fun e a w => match e with | .normal => Q .normal a w | _ => False) a w) : c.wp P Q a w :=
  wp_mono h (fun e a w q => by cases e <;> first | exact q | exact q.elim)

set_option linter.unusedSimpArgs false in
set_option maxRecDepth 100000 in
set_option maxHeartbeats 1000000 in
theorem closure52 (x y : Int) (W : World) : Calls Ybaz.prog 52 #[.agg #[.float .f64 0, .int .i64 x], .agg #[.float .f64 0, .int .i64 y]] W fun e w' => e = .returned (.int .i64 (cmpI x y)) ∧ ∃ q os', w' = grow (W.drewN q) os' := by
  generalize hr : cmpI x y = r
  go_enter Ybaz.func52, Ybaz.ntmps52
  go_wp2
  obtain ⟨W2, hW2⟩ : ∃ W2, (W.alloc (.cells #[.float .f64 0, .int .i64 x] 39)).alloc (.cells #[.float .f64 0, .int .i64 y] 39) = W2 := ⟨_, rfl⟩
  have hx1 : W2.heap[W.heap.size]? = some (.cells #[.float .f64 0, .int .i64 x] 39 (0, 0)) := by rw [← hW2, alloc_at, if_neg (by simp), alloc_at, if_pos rfl]
  have hx2 : W2.heap[W.heap.size + 1]? = some (.cells #[.float .f64 0, .int .i64 y] 39 (0, 0)) := by rw [← hW2, alloc_at, if_pos (by simp)]
  have hs2 : W2.heap.size = W.heap.size + 1 + 1 := by rw [← hW2]; simp
  rw [hW2]
  have a0 : W2.cell? ⟨W.heap.size, 0, none⟩ = some (.float .f64 0) := Joins.cell_of_block hx1 0
  have a1 : W2.cell? ⟨W.heap.size, 1, none⟩ = some (.int .i64 x) := Joins.cell_of_block hx1 1
  have b0 : W2.cell? ⟨W.heap.size + 1, 0, none⟩ = some (.float .f64 0) := Joins.cell_of_block hx2 0
  have b1 : W2.cell? ⟨W.heap.size + 1, 1, none⟩ = some (.int .i64 y) := Joins.cell_of_block hx2 1
  have l1 : W.heap.size < W2.heap.size := by omega
  have l2 : W.heap.size + 1 < W2.heap.size := by omega
  have hSof : ∀ w' : World, Below W2.heap.size W2 w' → Below W2.heap.size W2 w' ∧ w'.cell? ⟨W.heap.size, 0, none⟩ = some (.float .f64 0) ∧ w'.cell? ⟨W.heap.size, 1, none⟩ = some (.int .i64 x) ∧ w'.cell? ⟨W.heap.size + 1, 0, none⟩ = some (.float .f64 0) ∧ w'.cell? ⟨W.heap.size + 1, 1, none⟩ = some (.int .i64 y) := fun w' hb =>
    ⟨hb, (hb.cell (p := ⟨W.heap.size, 0, none⟩) l1).trans a0, (hb.cell (p := ⟨W.heap.size, 1, none⟩) l1).trans a1, (hb.cell (p := ⟨W.heap.size + 1, 0, none⟩) l2).trans b0, (hb.cell (p := ⟨W.heap.size + 1, 1, none⟩) l2).trans b1⟩
  have hxn : (W2.alloc (.cells #[.int .i64 0, .int .i64 r] 3)).heap[W.heap.size + 1 + 1]? = some (.cells #[.int .i64 0, .int .i64 r] 3 (0, 0)) := by rw [alloc_at, if_pos hs2.symm]
  have n0 : (W2.alloc (.cells #[.int .i64 0, .int .i64 r] 3)).cell? ⟨W.heap.size + 1 + 1, 0, none⟩ = some (.int .i64 0) := Joins.cell_of_block hxn 0
  have n1 : (W2.alloc (.cells #[.int .i64 0, .int .i64 r] 3)).cell? ⟨W.heap.size + 1 + 1, 1, none⟩ = some (.int .i64 r) := Joins.cell_of_block hxn 1
  refine wp_normal ?_
  go_region_held (fun w' => Below W2.heap.size W2 w' ∧ w'.cell? ⟨W.heap.size, 0, none⟩ = some (.float .f64 0) ∧ w'.cell? ⟨W.heap.size, 1, none⟩ = some (.int .i64 x) ∧ w'.cell? ⟨W.heap.size + 1, 0, none⟩ = some (.float .f64 0) ∧ w'.cell? ⟨W.heap.size + 1, 1, none⟩ = some (.int .i64 y))
    (first | exact hSof _ ((Below.refl _ _).drew) | exact hSof _ (((Below.refl _ _).drew).alloc (by simp) _)) (first | (go_at_call 54; refine (cmp54 _).mono ?_; rintro e w5 ⟨rfl, rfl⟩) | (go_at_call 55; refine (cmp55 x y _).mono ?_; rintro e w5 ⟨rfl, rfl⟩) | (go_at_call 53; refine (or53 (W.heap.size + 1 + 1) r (W2.alloc (.cells #[.int .i64 0, .int .i64 r] 3)).drew n0 n1).mono ?_; rintro e w5 ⟨rfl, rfl⟩))
  show Exit.then _ _ Exit.normal _ _
  go_wp2
  go_ret
  refine ⟨rfl, 1, #[.cells #[.float .f64 0, .int .i64 x] 39, .cells #[.float .f64 0, .int .i64 y] 39, .cells #[.int .i64 0, .int .i64 r] 3], ?_⟩
  rw [← hW2, alloc_eq_grow, alloc_eq_grow, alloc_eq_grow, grow_grow, grow_grow]
  rfl

/-- A group in memory: its offset, its blocks (a slice), what it does (a slice). -/
abbrev Grp := Int × Value × Value
def encG (x : Grp) : List Value := [.int .i64 x.1, x.2.1, x.2.2]
/-- A block's end in memory. -/
def encB (x : Int) : List Value := [.float .f64 0, .int .i64 x]

set_option linter.unusedSimpArgs false in
set_option maxHeartbeats 1000000 in
theorem closure14 (x y : Grp) (W : World) : Calls Ybaz.prog 14 #[.agg (encG x).toArray, .agg (encG y).toArray] W fun e w' => e = .returned (.int .i64 (cmpI x.1 y.1)) ∧ ∃ q os', w' = grow (W.drewN q) os' := by
  obtain ⟨x, vx, dx⟩ := x
  obtain ⟨y, vy, dy⟩ := y
  simp only [encG]
  have hc := fun W => cmp15 x y W
  generalize cmpI x y = r at hc ⊢
  go_enter Ybaz.func14, Ybaz.ntmps14
  go_wp2_with (go_at_call 15; refine (hc _).mono ?_; rintro e w' ⟨rfl, rfl⟩)
  go_ret
  exact ⟨rfl, 0, #[.cells #[.int .i64 x, vx, dx] 54, .cells #[.int .i64 y, vy, dy] 54], by rw [alloc_eq_grow, alloc_eq_grow, grow_grow]; rfl⟩

set_option linter.unusedSimpArgs false in
set_option maxHeartbeats 1000000 in
theorem closure37 (x : Grp) (a : Int) (ab : Nat) (W : World) (hab : ab < W.heap.size) (h : W.cell? ⟨ab, 0, none⟩ = some (.int .i64 a)) : Calls Ybaz.prog 37 #[.agg (encG x).toArray, .pointer (some ⟨ab, 0, none⟩)] W fun e w' => e = .returned (.bool (x.1 == a)) ∧ Below W.heap.size W w' := by
  obtain ⟨x, vx, dx⟩ := x
  simp only [encG]
  go_enter Ybaz.func37, Ybaz.ntmps37
  go_wp2
  go_ret
  exact ⟨rfl, (Below.refl _ _).alloc (Nat.le_refl _) _⟩

theorem ltOf_cmpI (x y : Int) : (decide (cmpI x y < 0)) = decide (x < y) := by
  unfold cmpI
  by_cases h1 : x < y
  · simp [h1]
  · by_cases h2 : y < x <;> simp [h1, h2]
end Go.Proofs.YbulkcemcGreat
