/-
  LawS4032CSingleStep: THE WALK, whole (seat b4032aZ).
-/
import Derived.Test.YbulkcemcGreatLawB
namespace Go.Proofs.YbulkcemcGreat
open Go.RowKit Go.Shelf Go.Lib Go.Sort

/-- The second argument in memory. -/
def ArgB (w : World) (B : Nat) (a : Option Addr) (len : Nat) (G : Nat → Nat) : Prop := ∀ i, i < len → ∃ b off, a = some ⟨b, off, none⟩ ∧ b < B ∧ w.cell? ⟨b, off + i, none⟩ = some (.int .u8 (G i)) ∧ G i ≤ 255

theorem ints_snoc (G : Nat → Nat) (i : Nat) : ((List.range i).map fun j => (G j : Int)).map (Value.int .i64) ++ [.int .i64 (G i)] = ((List.range (i + 1)).map fun j => (G j : Int)).map (Value.int .i64) := by
  rw [List.range_succ]; simp

set_option linter.unusedSimpArgs false in
set_option maxRecDepth 100000 in
set_option maxHeartbeats 1000000 in
theorem law_walk (a0 a1 : Option Addr) (len0 cap0 len1 cap1 sr : Nat) (F : Nat → Int) (M G : Nat → Nat) (lo U : Int) (w : World) (hArg : ArgS w w.heap.size a0 len0 F M) (hArgB : ArgB w w.heap.size a1 len1 G) (hm0 : (len0 : Int) ≤ 9223372036854775807) (hm1 : (len1 : Int) ≤ 9223372036854775807) (hlo : -2147483648 ≤ lo ∧ lo ≤ 2147483647) (hU : 0 ≤ U ∧ U ≤ 65535) :
    Calls Ybaz.prog 3 #[.slice a0 len0 cap0, .slice a1 len1 cap1, .int .u8 (sr : Int), .int .i32 lo, .int .u16 U] w fun e w' => e = .returned (.bool true) ∧ RowKit.Below w.heap.size w w' := by
  have hA : Aside (ArgS w w.heap.size a0 len0 F M ∧ ArgB w w.heap.size a1 len1 G) := ⟨hArg, hArgB⟩
  clear hArg hArgB
  obtain ⟨i0, hi, hz0, hz1, hz2⟩ := info_parts info3
  have hA3 : Aside (Ybaz.prog.info? 3 = some i0 ∧ i0.zero = some (.int .i64 0) ∧ i0.size = 1 ∧ i0.bytes = 8) := ⟨hi, hz0, hz1, hz2⟩
  clear hi hz0 hz1 hz2
  by_cases h0 : len0 ≤ 256
  · have h0' : (len0 : Int) ≤ 256 := by omega
    by_cases h1 : len1 ≤ 256
    · have h1' : (len1 : Int) ≤ 256 := by omega
      go_enter Ybaz.func3, Ybaz.ntmps3
      go_wp2
      rename_i K1 hK1
      have hK1' : Aside (∀ (a : Act) (w : World), _ → K1 a w) := hK1
      clear hK1
      go_loopg [11, 42] (len1 + 1) (fun q vo vi wr => ∃ (i : Nat) (pa : Option Addr) (pc : Nat), vo = .slice pa i pc ∧ vi = .int .i64 i ∧ i ≤ len1 ∧ len1 - i < q ∧ RowKit.Below w.heap.size w wr ∧ wr.ownsRow w.heap.size 3 1 (.slice pa i pc) i (((List.range i).map fun j => (G j : Int)).map (Value.int .i64)))
      case atStart => exact ⟨0, none, 0, rfl, rfl, Nat.zero_le _, by omega, RowKit.Below.refl _ _, World.ownsRow_nil _ _ _ _⟩
      case round =>
        obtain ⟨i, pa, pc, rfl, rfl, hiX, hq, hbr, hrow⟩ := hrel
        have hszr := hbr.size
        by_cases hlt : i < len1
        · obtain ⟨b, off, rfl, hbB, p0, m1⟩ := hA.out.2 i hlt
          have o0 := (hbr.cell (p := ⟨b, off + i, none⟩) hbB).trans p0
          have hlt' : (i : Int) < (len1 : Int) := by omega
          have hsn := ints_snoc G i
          obtain ⟨m, hm⟩ : ∃ m, G i = m := ⟨_, rfl⟩
          rw [hm] at o0 m1 hsn
          have hAr : Aside (((List.range i).map fun j => (G j : Int)).map (Value.int .i64) ++ [.int .i64 (m : Int)] = ((List.range (i + 1)).map fun j => (G j : Int)).map (Value.int .i64)) := hsn
          have hAr2 : Aside (wr.ownsRow w.heap.size 3 1 (.slice pa i pc) i (((List.range i).map fun j => (G j : Int)).map (Value.int .i64))) := hrow
          have hob : ∀ j, Value.ownBlock (.slice pa i pc) = some j → w.heap.size ≤ j := fun j hj => (hrow.lt j hj).1
          clear hsn p0 hm hrow
          go_wp2_with (at_builtin; refine Veil.off ?_)
          unfold Veil
          refine wpList_append_own _ rfl (.tmp 46) (.tmp 49) 25 rfl w.heap.size 3 i0 (.int .i64 0) 1 8 Ybaz.underlying25 hA3.out.1 hA3.out.2.1 hA3.out.2.2.1 hA3.out.2.2.2 rfl (by decide) _ _ _ rfl (hAr2.out.alloc _) ⟨wr.heap.size, 0, none⟩ 1 1 [.int .i64 (m : Int)] rfl rfl ?a1 ?a2 ?a3 ?a4 ?a5 ?_
          case a1 => exact cell_one_new _ _ _
          case a2 => intro u hu; simp at hu; subst hu; rfl
          case a3 => simp [maxLen]; omega
          case a4 => omega
          case a5 => simp; omega
          intro v2 w2 hown2 hgrow _
          rw [hAr.out] at hown2
          have hbe2 : RowKit.Below w.heap.size w w2 := (hbr.alloc hszr _).grown hgrow (by simp; omega) hob
          obtain ⟨pa2, pc2, hv2⟩ := own_form hown2
          subst hv2
          have hAo : Aside (w2.ownsRow w.heap.size 3 1 (.slice pa2 (i + 1) pc2) (i + 1) (((List.range (i + 1)).map fun j => (G j : Int)).map (Value.int .i64))) := hown2
          clear hown2 hgrow hob
          go_wp2
          go_roundg (len1 - i)
          case measure => omega
          case rel => exact ⟨i + 1, pa2, pc2, rfl, by go_num, by omega, by omega, hbe2, hAo.out⟩
        · obtain rfl : i = len1 := by omega
          obtain ⟨L, hL⟩ : ∃ L, (List.range i).map (fun j => (G j : Int)) = L := ⟨_, rfl⟩
          have hLl : L.length = i := by rw [← hL]; simp
          have hLr : ∀ x ∈ L, 0 ≤ x ∧ x ≤ 255 := fun x hx => by
            rw [← hL] at hx
            obtain ⟨j, hj, rfl⟩ := List.mem_map.1 hx
            obtain ⟨_, _, _, _, _, m1⟩ := hA.out.2 j (List.mem_range.1 hj)
            omega
          rw [hL] at hrow
          have hB := law_B a0 len0 cap0 sr (.slice pa i pc) L F M lo U w wr w.heap.size hbr hszr (hA.out.1.below hbr) h0 hlo hU (by rw [hLl]; exact hrow) (by omega) hLr (fun e w' => e = .returned (.bool true) ∧ RowKit.Below w.heap.size w w') (fun w' h => ⟨rfl, h⟩)
          clear hrow hLr hL
          go_wp2
          exact hK1'.out _ _ (hB _ _ _ _ _ _ _ _ _ _ _ _ _ _ _ _ _ _ _ _ _ _ _ _ _ _ _ _ _ _ _ _ _ _ _ _ _ _ _ _ _ _ _ _ _ _ _ _ _ _ _ _ _ _ _ _ _ _ _ _ _ _ _ _ _ _ _ _ _ _ _ _ _ _ _ _ _ _ _ _ _ _ _ _ _ _ _ _ _ _ _ _ _ _ _ _ _ _ _ _ _ _ _ _ _ _ _ _ _ _ _ _ _ _ _ _ _ _ _ _ _ _ _ _ _ _ _ _ _ _ _ _ _ _ _ _ _ _ _ _ _ _ _ _ _ _ _ _ _ _ _ _ _ _ _ _ _ _ _ _ _ _ _ _ _ _ _ _ _ _ _ _ _ _ _ _ _ _ _ _ _ _ _ _ _ _ _ _ _ _ _ _ _ _ _ _ _ _ _ _ _ _)
    · have h1' : (256 : Int) < (len1 : Int) := by omega
      go_enter Ybaz.func3, Ybaz.ntmps3
      go_wp2
      go_ret
      exact ⟨rfl, RowKit.Below.refl _ _⟩
  · have h0' : (256 : Int) < (len0 : Int) := by omega
    go_enter Ybaz.func3, Ybaz.ntmps3
    go_wp2
    go_ret
    exact ⟨rfl, RowKit.Below.refl _ _⟩
end Go.Proofs.YbulkcemcGreat
