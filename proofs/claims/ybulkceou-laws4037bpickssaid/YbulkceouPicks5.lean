/-
  LawS4037BPicks: THE WALK, whole (seat b4037a).
-/
import Derived.Test.YbulkceouPicks4
import Derived.Deep.DeepCutAuto
namespace Go.Proofs.Ybulkceou
open Go.RowKit
attribute [local go_sem] fold48 size_oc

set_option maxRecDepth 100000 in
set_option maxHeartbeats 1000000 in
theorem picks_walk (o0 o1 o2 j0 j1 j2 pin sel : Int) (b0 b1 b2 ent fol : Bool) (w : World) (hs0 : 0 ≤ sel) (hs1 : sel ≤ 255) :
    Calls Yba.prog 3 #[.agg #[.int .u64 o0, .int .u64 o1, .int .u64 o2], .agg #[.int .u64 j0, .int .u64 j1, .int .u64 j2], .agg #[.bool b0, .bool b1, .bool b2], .int .u64 pin, .bool ent, .bool fol, .int .u8 sel] w fun e w' => e = .returned (.bool true) ∧ Below w.heap.size w w' := by
  obtain ⟨i0, z, hi, hz0, hz1, hz2⟩ := info48_parts
  have hmk := fun (W : World) => run_make (P := Yba.prog) W 27 48 i0 z Yba.underlying27 hi hz0 .i64 .i64 3 3 (by omega) (Int.le_refl _) (by rw [hz2]; decide) (by omega)
  rw [hz1] at hmk
  obtain ⟨zc, hzc⟩ : ∃ zc, z.cells = zc := ⟨_, rfl⟩
  rw [hzc] at hmk
  clear hzc hz0 hi hz1 hz2
  go_enter Yba.func3, Yba.ntmps3
  go_wp2
  go_loopg [18] 4 (fun k vi wr => ∃ (i : Nat) (P : Nat → Option Nat), vi = .int .i64 i ∧ i ≤ 3 ∧ 3 - i < k ∧ BR w (p3 o0 o1 o2) (p3 j0 j1 j2) (p3 b0 b1 b2) P i wr)
  case atStart =>
    refine ⟨0, fun _ => none, rfl, by omega, by omega, ?_⟩
    refine ⟨?_, ?_, ?_, ?_, ?_, fun j q _ h => by simp at h, fun j hj => absurd hj (Nat.not_lt_zero _), fun _ _ => rfl, ?_⟩
    · exact (((((Below.refl _ _).alloc (Nat.le_refl _) _).alloc (by simp) _).alloc (by simp; omega) _).alloc (by simp; omega) _).alloc (by simp; omega) _
    · intro j hj
      rcases (show j = 0 ∨ j = 1 ∨ j = 2 by omega) with rfl | rfl | rfl <;> simp [go_sem, p3]
    · intro j hj
      rcases (show j = 0 ∨ j = 1 ∨ j = 2 by omega) with rfl | rfl | rfl <;> simp [go_sem, p3]
    · intro j hj
      rcases (show j = 0 ∨ j = 1 ∨ j = 2 by omega) with rfl | rfl | rfl <;> simp [go_sem, p3]
    · rw [Below.heap_alloc _ _ _ (by simp)]
      have e : w.heap.size + 1 + 1 + 1 = (((w.alloc (.cells #[.int .u64 o0, .int .u64 o1, .int .u64 o2] 23)).alloc (.cells #[.int .u64 j0, .int .u64 j1, .int .u64 j2] 23)).alloc (.cells #[.bool b0, .bool b1, .bool b2] 24)).heap.size := by simp
      rw [e]
      exact (MapKept.heap_alloc _ _).1
    · refine ⟨madeCells zc 87, ?_, size_madeCells _ _, fun j hj => absurd hj (Nat.not_lt_zero _)⟩
      · have e : w.heap.size + 1 + 1 + 1 + 1 = ((((w.alloc (.cells #[.int .u64 o0, .int .u64 o1, .int .u64 o2] 23)).alloc (.cells #[.int .u64 j0, .int .u64 j1, .int .u64 j2] 23)).alloc (.cells #[.bool b0, .bool b1, .bool b2] 24)).alloc (.cells #[.pointer none, .pointer none, .pointer none] 26)).heap.size := by simp
        rw [e]
        exact (MapKept.heap_alloc _ _).1
  case round =>
    obtain ⟨i, P, rfl, hi3, hk, hR⟩ := hrel
    by_cases hlt : i < 3
    · obtain ⟨hbel, ob, jb, bb, arr, pok, pis, pno, cs, hcs, hcsz, hdone⟩ := hR
      have ci := ob i hlt
      have cj := jb i hlt
      have cb := bb i hlt
      have hNs : w.heap.size + 4 < wr.heap.size := (Array.getElem?_eq_some_iff.1 hcs).1
      have ca : wr.cell? ⟨w.heap.size + 1 + 1 + 1, i, none⟩ = some (.pointer none) := by
        rw [Joins.cell_of_block arr]
        have h0 := pno i (Nat.le_refl _)
        rcases (show i = 0 ∨ i = 1 ∨ i = 2 by omega) with rfl | rfl | rfl <;> simp [h0, vp, ap]
      have fa : wr.frozen? ⟨w.heap.size + 1 + 1 + 1, i, none⟩ = false := Joins.unfrozen_of_block arr i
      have n0 : w.heap.size < wr.heap.size := by omega
      have n1 : w.heap.size + 1 < wr.heap.size := by omega
      have n2 : w.heap.size + 1 + 1 < wr.heap.size := by omega
      have n3 : w.heap.size + 1 + 1 + 1 < wr.heap.size := by omega
      have n4 : w.heap.size + 1 + 1 + 1 + 1 < wr.heap.size := by omega
      have hi3' : (i : Int) < 3 := by omega
      have hth : wr.there (w.heap.size + 1 + 1 + 1 + 1) (i * 29) 29 := fun q hq => by
        obtain ⟨⟨u, hu⟩, hf⟩ := cells_of_blk hcs hcsz (i * 29 + q) (by omega)
        exact ⟨by rw [hu]; rfl, hf⟩
      have hst := fun (o : Int) (p : Option Addr) (W : World) (h : W.there (w.heap.size + 1 + 1 + 1 + 1) (i * 29) 29) => store_ch W (w.heap.size + 1 + 1 + 1 + 1) (i * 29) o p h
      have hth2 : ∀ (o : Obj), ((wr.setCell ⟨w.heap.size + 1 + 1 + 1, i, none⟩ (.pointer (some ⟨wr.heap.size, 0, none⟩))).alloc o).drew.there (w.heap.size + 1 + 1 + 1 + 1) (i * 29) 29 := fun o q hq => by
        obtain ⟨h1, h2⟩ := hth q hq
        have hs1 : (wr.setCell ⟨w.heap.size + 1 + 1 + 1, i, none⟩ (.pointer (some ⟨wr.heap.size, 0, none⟩))).heap.size = wr.heap.size := by simp [World.setCell]
        have e : ((wr.setCell ⟨w.heap.size + 1 + 1 + 1, i, none⟩ (.pointer (some ⟨wr.heap.size, 0, none⟩))).alloc o).heap[w.heap.size + 1 + 1 + 1 + 1]? = wr.heap[w.heap.size + 1 + 1 + 1 + 1]? := by
          rw [Below.heap_alloc _ _ _ (by omega)]; exact Below.heap_setCell _ _ _ _ (by simp)
        exact ⟨by rw [← h1]; exact congrArg Option.isSome (World.cell?_of_block (w := wr) e), (World.frozen?_of_block (w := wr) e).trans h2⟩
      have hth1 : wr.drew.there (w.heap.size + 1 + 1 + 1 + 1) (i * 29) 29 := hth
      have A : Aside (BR w (p3 o0 o1 o2) (p3 j0 j1 j2) (p3 b0 b1 b2) P i wr) := ⟨hbel, ob, jb, bb, arr, pok, pis, pno, cs, hcs, hcsz, hdone⟩
      clear hbel ob jb bb arr pok pis pno hcs hcsz hdone hmk
      generalize hO : p3 o0 o1 o2 i = oi at ci
      generalize hJ : p3 j0 j1 j2 i = ji at cj
      generalize hB : p3 b0 b1 b2 i = bi at cb
      have Hv : Aside (p3 o0 o1 o2 i = oi ∧ p3 j0 j1 j2 i = ji ∧ p3 b0 b1 b2 i = bi) := ⟨hO, hJ, hB⟩
      clear hO hJ hB
      cases bi with
      | false =>
        go_wp2
        go_region
        go_wp2
        go_roundg (3 - i)
        case measure => omega
        case rel =>
          obtain ⟨e1, _, e3⟩ := Hv.out
          exact ⟨i + 1, P, by go_num, by omega, by omega, e1 ▸ A.out.no hlt e3⟩
      | true =>
        go_wp2
        go_region
        go_wp2
        go_roundg (3 - i)
        case measure => omega
        case rel =>
          obtain ⟨e1, e2, e3⟩ := Hv.out
          have := A.out.yes hlt e3
          rw [e1, e2] at this
          exact ⟨i + 1, _, by go_num, by omega, by omega, this⟩
    · obtain rfl : i = 3 := by omega
      obtain ⟨k, hk3⟩ : ∃ k : Nat, sel % 3 = (k : Int) := Int.eq_ofNat_of_zero_le (by omega)
      have hkl : k < 3 := by omega
      have hsz := (hR.at 0 (by omega)).size
      have A : Aside (BR w (p3 o0 o1 o2) (p3 j0 j1 j2) (p3 b0 b1 b2) P 3 wr) := hR
      clear hR hmk hlt hk hi3
      go_upto_if 58 with fail
      go_cut [19] (fun v wx => ∃ eq : Option Nat, v = .pointer (ap eq) ∧ eq.isSome = ent ∧ Below wr.heap.size wr wx)
      case first =>
        cases ent with
        | false =>
          go_wp2
          go_meet
          case rel => exact ⟨none, rfl, rfl, Below.refl _ _⟩
        | true =>
          go_wp2
          go_meet
          case rel => exact ⟨some _, rfl, rfl, (Below.refl _ _).alloc (Nat.le_refl _) _⟩
      case rest =>
        rename_i hK
        obtain ⟨eq, rfl, heq, hb1⟩ := hcut
        exact hK _ _ (picks_B o0 o1 o2 j0 j1 j2 pin sel b0 b1 b2 ent fol w wr wc k P eq _ _ _ _ _ _ _ _ _ _ _ _ _ _ _ _ _ _ _ _ _ _ _ _ _ _ _ _ _ _ _ _ _ _ _ _ _ _ _ _ _ _ _ _ _ _ _ _ _ _ _ _ _ _ _ _ _ _ _ _ _ _ _ _ _ _ _ _ _ _ _ _ _ _ _ _ _ _ _ _ _ _ _ _ _ _ _ _ _ _ _ _ _ _ _ _ _ _ _ _ _ _ _ _ _ _ _ _ _ _ _ _ _ _ _ _ _ _ _ _ _ _ _ _ _ _ _ _ _ _ _ _ _ _ _ _ _ _ _ _ _ _ _ _ _ _ _ _ _ _ _ _ _ _ _ _ _ _ _ _ _ _ _ _ _ _ _ _ _ _ _ _ _ _ _ _ _ _ _ _ _ _ _ _ _ _ _ _ _ _ _ heq hb1 hk3 hkl A)
end Go.Proofs.Ybulkceou
