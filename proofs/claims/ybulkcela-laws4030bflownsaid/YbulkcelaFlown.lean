/-
  LawS4030BFlown: THE WALK (seat b4030a).
-/
import Derived.Test.YbulkcelaKinds
namespace Go.Proofs.Ybulkcela
open Go.RowKit Go.MapKept

theorem flist_split (S E : Nat → Int) (i : Nat) : ∀ d, ∃ r, flist S E (i + d) = flist S E i ++ r
  | 0 => ⟨[], by simp⟩
  | d + 1 => by
    obtain ⟨r, hr⟩ := flist_split S E i d
    by_cases h : S (i + d) ≠ 0 ∨ E (i + d) ≠ 0
    · exact ⟨r ++ [i + d], by rw [← Nat.add_assoc, flist_yes h, hr, List.append_assoc]⟩
    · exact ⟨r, by rw [← Nat.add_assoc, flist_no h, hr]⟩

theorem flist_at (S E : Nat → Int) (i len : Nat) (hi : i < len) (h : S i ≠ 0 ∨ E i ≠ 0) : (flist S E len)[(flist S E i).length]? = some i := by
  obtain ⟨r, hr⟩ := flist_split S E (i + 1) (len - (i + 1))
  rw [show i + 1 + (len - (i + 1)) = len by omega, flist_yes h] at hr
  rw [hr, List.append_assoc, List.getElem?_append_right (Nat.le_refl _)]
  simp

/-- Two pointers that are one. -/
theorem neq_same (a : Addr) (w : World) : (binOp .neq 45 (.pointer (some a)) (.pointer (some a))).run Yba.prog w = .ok (.bool false) w := by
  have h53 : ∃ j, Yba.prog.info? 53 = some j := by
    obtain ⟨j, h, _⟩ := info_parts Yba.info53
    exact ⟨j, h⟩
  obtain ⟨j, hj⟩ := h53
  exact Lib.run_neq_ptr_same w a Yba.underlying45 hj

set_option maxRecDepth 100000 in
set_option maxHeartbeats 2000000 in
theorem flown_walk (a : Option Addr) (len cap : Nat) (S E : Nat → Int) (hl : (len : Int) ≤ 9223372036854775807) (w : World) (hA : Arg w w.heap.size a len S E) :
    Calls Yba.prog 4 #[.slice a len cap] w fun e w' => e = .returned (.bool true) ∧ Below w.heap.size w w' := by
  by_cases h512 : 512 < (len : Int)
  · go_enter Yba.func4, Yba.ntmps4
    go_wp2
    go_ret
    exact ⟨rfl, Below.refl _ _⟩
  · go_enter Yba.func4, Yba.ntmps4
    go_wp2_with fail
    refine (size_walk w.heap.size a len cap S E (by omega) w hA).mono ?_
    rintro e w1 ⟨t, rfl, n, rfl⟩
    by_cases ht : 4096 < t
    · go_wp2
      go_ret
      exact ⟨rfl, below_drewN _ _ _⟩
    · have ht' : decide (4096 < t) = false := by simpa using ht
      go_wp2_with fail
      refine (build_walk a len cap S E (by omega) (w.drewN n) (hA.kept (below_drewN _ _ _))).mono ?_
      rintro e wB ⟨rfl, hB⟩
      have hNlt : w.heap.size < wB.heap.size := by
        obtain ⟨cs, hcs, _⟩ := hB.blk
        exact (Array.getElem?_eq_some_iff.1 hcs).1
      go_wp2_with fail
      refine (kinds_walk w.heap.size w.heap.size len len S E (by omega) wB hNlt (Nat.le_refl _) hB.done).mono ?_
      rintro e wK ⟨rfl, hK⟩
      obtain ⟨hbK, fv, hfv, hrow⟩ := hK
      have hbel : Below w.heap.size w wK := ((below_drewN _ w n).trans hB.below).trans (hbK.mono (show w.heap.size ≤ _ from Nat.le_of_lt hNlt))
      have hAK : Arg wK w.heap.size a len S E := hA.kept hbel
      obtain ⟨fa, fc, hfe⟩ : ∃ fa fc, fv = .slice fa (flist S E len).length fc := by
        rcases hrow.2 with ⟨e1, e2⟩ | ⟨g, cp, cur, e1, _⟩
        · exact ⟨none, 0, by rw [e1, e2]⟩
        · exact ⟨_, cp, e1⟩
      have hcells : ∀ j i, (flist S E len)[j]? = some i → ∃ g, fa = some ⟨g, 0, none⟩ ∧ wK.cell? ⟨g, j, none⟩ = some (.pointer (some ⟨w.heap.size, i * 9, none⟩)) := fun j i hj => by
        have hlt := (List.getElem?_eq_some_iff.1 hj).1
        rcases hrow.2 with ⟨e1, e2⟩ | ⟨g, cp, cur, e1, _⟩
        · omega
        · rw [e1] at hfe hrow
          injection hfe with h1 h2 h3
          refine ⟨g, h1.symm, ?_⟩
          rw [hrow.cellAt j (by omega), List.getElem?_map, hj]
          rfl
      have hfle := flist_le S E len
      subst hfe
      have Hbel : Aside (Below w.heap.size w wK) := hbel
      clear hrow hbel hB hbK
      go_wp2
      go_loopg [5, 23] (len + 1) (fun k vj vi wr => ∃ i m : Nat, vj = .int .i64 ((flist S E i).length : Nat) ∧ vi = .int .i64 i ∧ i ≤ len ∧ len - i < k ∧ wr = wK.drewN m)
      case atStart => exact ⟨0, 0, rfl, rfl, Nat.zero_le _, by omega, rfl⟩
      case round =>
        obtain ⟨i, m, rfl, rfl, hi, hk, rfl⟩ := hrel
        by_cases hlt : i < len
        · obtain ⟨b, off, rfl, he⟩ := hAK i hlt
          obtain ⟨_, _, _, st, fi, _, _, _, _⟩ := he
          by_cases hf : S i ≠ 0 ∨ E i ≠ 0
          · have hat := flist_at S E i len hlt hf
            have hjl := (List.getElem?_eq_some_iff.1 hat).1
            have hfy := flist_yes hf
            obtain ⟨g, rfl, hg⟩ := hcells _ _ hat
            have hneq := neq_same ⟨w.heap.size, i * 9, none⟩
            have Hy : Aside (flist S E (i + 1) = flist S E i ++ [i]) := hfy
            have hge : decide ((flist S E len).length ≤ (flist S E i).length) = false := by simp; omega
            have hjl2 : ((flist S E i).length : Int) < ((flist S E len).length : Int) := by omega
            clear hat hfy
            by_cases hs : S i = 0
            · have hsb : (S i == 0) = true := by simpa using hs
              have hsb' : (S i != 0) = false := by simp [hs]
              have heb : (E i == 0) = false := by simpa using (hf.resolve_left (fun h => h hs))
              have heb' : (E i != 0) = true := by simp [hf.resolve_left (fun h => h hs)]
              clear hf hs
              go_wp2
              go_quiet (fail)
              go_wp2
              go_roundg (len - i)
              case measure => omega
              case rel => exact ⟨i + 1, _, by rw [Hy.out]; simp, by go_num, by omega, by omega, rfl⟩
            · have hsb : (S i == 0) = false := by simpa using hs
              have hsb' : (S i != 0) = true := by simp [hs]
              clear hf hs
              go_wp2
              go_quiet (fail)
              go_wp2
              go_roundg (len - i)
              case measure => omega
              case rel => exact ⟨i + 1, _, by rw [Hy.out]; simp, by go_num, by omega, by omega, rfl⟩
          · have hfn := flist_no hf
            have Hn : Aside (flist S E (i + 1) = flist S E i) := hfn
            have hs : S i = 0 := Classical.byContradiction fun h => hf (Or.inl h)
            have he : E i = 0 := Classical.byContradiction fun h => hf (Or.inr h)
            have hsb' : (S i != 0) = false := by simp [hs]
            have heb' : (E i != 0) = false := by simp [he]
            clear hfn hf hs he
            go_wp2
            go_roundg (len - i)
            case measure => omega
            case rel => exact ⟨i + 1, _, by rw [Hn.out], by go_num, by omega, by omega, rfl⟩
        · obtain rfl : i = len := by omega
          go_wp2
          go_ret
          exact ⟨rfl, Hbel.out.trans (below_drewN _ _ _)⟩
end Go.Proofs.Ybulkcela
