/-
  LawS4037CInstall: the iterator of '(memberSet).all()' by its contract (seat b4037aD).
-/
import Derived.RangeFuncNested
import Derived.RangeFuncBound
import Derived.RangeFuncCalls
import Derived.RangeFuncLeaves
import Derived.Shelf.Abstract
import Derived.Shelf.RegionOpen
import Derived.OwnWalkIn
import Derived.TacticsInMore
import Derived.LoopNIn
import Derived.LoopIn
import Derived.Sort.LoopGhostIn
import Derived.Test.YbulkceouDoorSmall
namespace Go.Proofs.YbulkceouDoor
open Go.RowKit Go.Shelf
attribute [local go_sem] Oper.semAt_some

theorem tab_below {n₀ : Nat} {W W' : World} (h : TabAt 0 Lib.deBruijn64tab W) (hb : Below n₀ W W') (h0 : 0 < n₀) : TabAt 0 Lib.deBruijn64tab W' :=
  fun j hj => (hb.cell (p := ⟨0, j, none⟩) h0).trans (h j hj)

/-- A word without its lowest bit. -/
theorem clear_word (x : Nat) (hx : x < 2 ^ 64) (h0 : x ≠ 0) : bits .and .u64 (x : Int) ((x : Int) - 1) = ((x &&& (x - 1) : Nat) : Int) := by
  have e : (x : Int) - 1 = ((x - 1 : Nat) : Int) := by omega
  rw [e, bits_and_u64_nat x _ hx (by omega)]

theorem index0 (a b : Int) (W : World) : Sem.run Ybad.prog (Instr.index 26 (.agg #[.int .u64 a, .int .u64 b]) (.int .i64 0)) W = .ok (.int .u64 a) W := by
  simp [Instr.index, run_underlying Ybad.underlying26, go_sem, asIntOf]
theorem index1 (a b : Int) (W : World) : Sem.run Ybad.prog (Instr.index 26 (.agg #[.int .u64 a, .int .u64 b]) (.int .i64 1)) W = .ok (.int .u64 b) W := by
  simp [Instr.index, run_underlying Ybad.underlying26, go_sem, asIntOf]

/-- The members below m. -/
abbrev Mb (m : Nat) := { k : Nat // k < m }

set_option maxRecDepth 100000 in
set_option maxHeartbeats 2000000 in
theorem all_stops (n : Nat) (hn : 1 ≤ n) (b0 Bx x m : Nat) (hx : x < 2 ^ 64) (hm : ∀ k, k ∈ mem x → k < m) (w : World) (h0 : 0 < b0) (hT : TabAt 0 Lib.deBruijn64tab w)
    (hBx : Bx < w.heap.size) (c0 : w.cell? ⟨Bx, 0, none⟩ = some (.int .u64 x)) (c1 : w.cell? ⟨Bx, 1, none⟩ = some (.int .u64 0)) :
    SeqStopsK Fence.wide n Ybad.prog 9 #[.pointer (some ⟨Bx, 0, none⟩)] (fun k : Mb m => #[Value.int .i64 k.1]) (Below b0) (fun xs => xs.map (·.1) = mem x) (fun pre => pre.map (·.1) <+: mem x) (mem x).length w := fun l J Jx W hW hJ hJx hY hJ0 => by
  refine callsIn_of_wp Ybad.func9 rfl trivial ?_ rfl
  simp only [Ybad.ntmps9, List.size_toArray, List.length_cons, List.length_nil, Nat.reduceAdd, Nat.reduceSub, Array.replicate_succ, Array.replicate_zero, List.push_toArray, List.append_toArray, List.nil_append, List.cons_append]
  have d0 := (hW.cell (p := ⟨Bx, 0, none⟩) hBx).trans c0
  have d1 := (hW.cell (p := ⟨Bx, 1, none⟩) hBx).trans c1
  have hTW : TabAt 0 Lib.deBruijn64tab W := tab_below hT hW (by omega)
  gi_wp2
  gi_loopg [6] 3 (fun g vi wr => ∃ (i : Nat) (pre : List (Mb m)), vi = .int .i64 i ∧ i ≤ 2 ∧ 2 - i < g ∧ J pre wr ∧ Below b0 W wr ∧ pre.map (·.1) = if i = 0 then [] else mem x)
  case atStart => exact ⟨0, [], rfl, by omega, by omega, hJ0, Below.refl _ _, rfl⟩
  case round =>
    obtain ⟨i, pre, rfl, hi2, hg, hJp, hBp, hpre⟩ := hrel
    by_cases h0i : i = 0
    · subst h0i
      obtain rfl : pre = [] := List.map_eq_nil_iff.1 hpre
      clear hpre
      have hix := index0 x 0
      gi_wp2
      gi_loopg [4] ((mem x).length + 1) (fun g v ws => ∃ (y : Nat) (pr : List (Mb m)), v = .int .u64 y ∧ y < 2 ^ 64 ∧ pr.map (·.1) ++ mem y = mem x ∧ (mem y).length < g ∧ J pr ws ∧ Below b0 W ws)
      case atStart => exact ⟨x, [], rfl, hx, rfl, Nat.lt_succ_self _, hJp, hBp⟩
      case round =>
        obtain ⟨y, pr, rfl, hy64, hym, hyg, hJr, hBr⟩ := hrel
        by_cases hy0 : y = 0
        · subst hy0
          gi_wp2
          gi_roundg (2 - 0)
          case measure => omega
          case rel => exact ⟨1, pr, by go_num, by omega, by omega, hJr, hBr, by rw [mem_zero, List.append_nil] at hym; simpa using hym⟩
        · obtain ⟨hs1, hs2⟩ := mem_step y hy0 hy64
          have hz := fun (ws : World) h => tz y hy64 hy0 ws h
          have hcl := clear_word y hy64 hy0
          have hT2 : TabAt 0 Lib.deBruijn64tab wr := tab_below hTW hBr h0
          have hyne : ((y : Int) == 0) = false := by simp; omega
          generalize hc : Lib.ctz 64 y = c at *
          have hcx : c ∈ mem x := by rw [← hym, hs1]; simp
          have hlen : pr.length < (mem x).length := by
            have := congrArg List.length hym
            rw [hs1] at this
            simp at this
            omega
          obtain ⟨fn, tmps, assign, body, hy, hR⟩ := hY pr ⟨c, hm c hcx⟩ wr hJr hlen
          dsimp only at hy
          gi_wp2_with (refine ⟨trivial, ?_⟩; gi_at_call 10; refine (callsIn_wide.2 (hz _ hT2)).mono ?_; rintro e w' ⟨rfl, rfl⟩)
          refine hR.mono ?_
          rintro e W3 (⟨rfl, hJ3, hk3⟩ | ⟨rfl, hJx3⟩)
          · gi_wp2
            gi_roundg ((mem (y &&& (y - 1))).length + 1)
            case measure =>
              rw [hs1] at hyg
              simp at hyg
              omega
            case rel =>
              refine ⟨y &&& (y - 1), pr ++ [⟨c, hm c hcx⟩], ?_, ?_, ?_, Nat.lt_succ_self _, hJ3, hBr.trans hk3⟩
              · rfl
              · exact Nat.lt_of_le_of_lt Nat.and_le_left hy64
              · rw [hs1] at hym
                simpa using hym
          · gi_wp2
            refine bodyPost_ret (results_none rfl _ _ _) rfl ?_
            refine ⟨⟨_, rfl⟩, .inr ⟨pr ++ [⟨c, hm c hcx⟩], ?_, hJx3⟩⟩
            rw [hs1] at hym
            exact ⟨mem (y &&& (y - 1)), by rw [← hym]; simp⟩
    · rw [if_neg h0i] at hpre
      rcases (show i = 1 ∨ i = 2 by omega) with rfl | rfl
      · have hix := index1 x 0
        gi_wp2
        gi_loopg [4] 1 (fun g v ws => v = .int .u64 0 ∧ J pre ws ∧ Below b0 W ws)
        case atStart => exact ⟨rfl, hJp, hBp⟩
        case round =>
          obtain ⟨rfl, hJr, hBr⟩ := hrel
          gi_wp2
          gi_roundg (2 - 1)
          case measure => omega
          case rel => exact ⟨2, pre, by go_num, by omega, by omega, hJr, hBr, by rw [if_neg (by omega)]; exact hpre⟩
      · gi_wp2
        go_end0
        exact ⟨⟨_, rfl⟩, .inl ⟨pre, hpre, hJp⟩⟩
end Go.Proofs.YbulkceouDoor
