/-
  LawS4037CInstall: '(*peer).install' behind its first loop (seat b4037aD).
-/
import Derived.Test.YbulkceouDoorInstC
namespace Go.Proofs.YbulkceouDoor
open Go.RowKit Go.Shelf
attribute [local go_sem] Oper.semAt_some

noncomputable def iB : Code := (Ybad.f4.body.bind (fromR 4)).getD .skip

set_option linter.unusedSimpArgs false in
set_option maxRecDepth 100000 in
set_option maxHeartbeats 2000000 in
theorem install_B (b0 E B pb chb rb nb n s pm cm jm x1 x2 D L : Nat) (tn tm : Int) (nm : Nat → ByteArray) (xs zs : List Value) (evs : Value) (cs : Array Value) (u19 u20 u23 u24 : Value) (w0 w : World) (hw0 : Below b0 w0 w) (hsame : ∀ j, j ≠ pb → j ≠ rb → j < E → w.heap[j]? = w0.heap[j]?)
    (h0 : 0 < b0) (hbp : b0 ≤ pb) (hpE : pb < E) (hcE : chb < E) (hrE : rb < E) (hnE : nb < E) (hEB : E ≤ B) (hx1B : x1 < B) (hx2B : x2 < B) (hE1 : E ≤ x1) (hE2 : E ≤ x2) (hBw : B ≤ w.heap.size) (hpc : chb ≠ pb) (hpr : rb ≠ pb) (hpn : nb ≠ pb)
    (hT : TabAt 0 Lib.deBruijn64tab w)
    (hpb : w.heap[pb]? = some (.cells cs 53 (0, 0))) (k1 : cs[1]? = some (.slice (some ⟨nb, 0, none⟩) n n)) (k2 : cs[2]? = some (.int .i64 s))
    (k19 : cs[19]? = some u19) (k20 : cs[20]? = some u20) (k21 : cs[21]? = some (.int .u64 pm)) (k22 : cs[22]? = some (.int .u64 0)) (k23 : cs[23]? = some u23) (k24 : cs[24]? = some u24)
    (d1 : w.cell? ⟨x1, 0, none⟩ = some (.pointer (some ⟨pb, 0, none⟩))) (d2 : w.cell? ⟨x2, 0, none⟩ = some (.pointer (some ⟨chb, 0, none⟩)))
    (q2 : w.cell? ⟨chb, 2, none⟩ = some (.int .u64 tn)) (q3 : w.cell? ⟨chb, 3, none⟩ = some (.int .i64 tm))
    (q4 : w.cell? ⟨chb, 4, none⟩ = some (.int .u64 cm)) (q5 : w.cell? ⟨chb, 5, none⟩ = some (.int .u64 0))
    (q6 : w.cell? ⟨chb, 6, none⟩ = some (.int .u64 jm)) (q7 : w.cell? ⟨chb, 7, none⟩ = some (.int .u64 0))
    (hnm : ∀ k, k < n → w.cell? ⟨nb, k, none⟩ = some (.string (nm k)))
    (hn : n ≤ 64) (hs : s < n) (hcm : cm < 2 ^ n) (hjp : ∀ i, i < 64 → jm.testBit i = true → pm.testBit i = true)
    (hl : Listed rb B zs w) (hev : w.ownsRow E 62 15 evs L xs) (hevB : ∀ k, evs.ownBlock = some k → k < B) (hL : L ≤ 1024)
    (hD : w.heap[D]? = some (.deferred (some []))) (hDB : B ≤ D)
    (c4 c7 c8 c9 c10 c11 c12 c13 c14 c15 c16 c17 c18 c19 c20 c21 c22 c23 c24 c25 c26 c27 c28 c29 c30 c31 c32 c33 c34 c35 c36 c37 c38 c39 c40 c41 c42 c43 c44 c45 c46 c47 c48 c49 c50 c51 c52 c53 c54 c55 c56 c57 c58 c59 c60 c61 c62 c63 c64 c65 c66 c67 c68 c69 c70 c71 c72 : Value) :
    iB.wp Ybad.prog (bodyPostM Fence.wide 6 Ybad.prog Ybad.f4 fun e w' => ∃ v, e = .returned v ∧ Installed b0 E pb chb rb n s cm L tn tm nm xs zs w0 v w')
      { tmps := #[(.pointer (some ⟨pb, 0, none⟩)), evs, (.pointer (some ⟨chb, 0, none⟩)), (.pointer (some ⟨x1, 0, none⟩)), c4, (.pointer (some ⟨x2, 0, none⟩)), (.slice none 0 0), c7, c8, c9, c10, c11, c12, c13, c14, c15, c16, c17, c18, c19, c20, c21, c22, c23, c24, c25, c26, c27, c28, c29, c30, c31, c32, c33, c34, c35, c36, c37, c38, c39, c40, c41, c42, c43, c44, c45, c46, c47, c48, c49, c50, c51, c52, c53, c54, c55, c56, c57, c58, c59, c60, c61, c62, c63, c64, c65, c66, c67, c68, c69, c70, c71, c72], defers := [{ target := .collected D, args := #[] }] } w := by
  conv => arg 2; whnf
  have hpw : pb < w.heap.size := by omega
  have hcw : chb < w.heap.size := by omega
  have hxw1 : x1 < w.heap.size := by omega
  have hxw2 : x2 < w.heap.size := by omega
  have p21 : w.cell? ⟨pb, 21, none⟩ = some (.int .u64 pm) := (Joins.cell_of_block hpb 21).trans k21
  have p22 : w.cell? ⟨pb, 22, none⟩ = some (.int .u64 0) := (Joins.cell_of_block hpb 22).trans k22
  have A : Aside (w.heap[pb]? = some (.cells cs 53 (0, 0)) ∧ Listed rb B zs w ∧ w.ownsRow E 62 15 evs L xs ∧ TabAt 0 Lib.deBruijn64tab w ∧ (∀ k, k < n → w.cell? ⟨nb, k, none⟩ = some (.string (nm k)))) := ⟨hpb, hl, hev, hT, hnm⟩
  clear hpb hl hev hnm
  have hSof : ∀ w' : World, Below w.heap.size w w' → Below w.heap.size w w' ∧ w'.cell? ⟨x1, 0, none⟩ = some (.pointer (some ⟨pb, 0, none⟩)) ∧ w'.cell? ⟨x2, 0, none⟩ = some (.pointer (some ⟨chb, 0, none⟩)) ∧ w'.cell? ⟨pb, 21, none⟩ = some (.int .u64 pm) ∧ w'.cell? ⟨pb, 22, none⟩ = some (.int .u64 0) ∧ w'.cell? ⟨chb, 6, none⟩ = some (.int .u64 jm) ∧ w'.cell? ⟨chb, 7, none⟩ = some (.int .u64 0) := fun w' hb =>
    ⟨hb, (hb.cell (p := ⟨x1, 0, none⟩) hxw1).trans d1, (hb.cell (p := ⟨x2, 0, none⟩) hxw2).trans d2, (hb.cell (p := ⟨pb, 21, none⟩) hpw).trans p21, (hb.cell (p := ⟨pb, 22, none⟩) hpw).trans p22, (hb.cell (p := ⟨chb, 6, none⟩) hcw).trans q6, (hb.cell (p := ⟨chb, 7, none⟩) hcw).trans q7⟩
  go_wp2
  refine wp_normal ?_
  go_region_held (fun w' => Below w.heap.size w w' ∧ w'.cell? ⟨x1, 0, none⟩ = some (.pointer (some ⟨pb, 0, none⟩)) ∧ w'.cell? ⟨x2, 0, none⟩ = some (.pointer (some ⟨chb, 0, none⟩)) ∧ w'.cell? ⟨pb, 21, none⟩ = some (.int .u64 pm) ∧ w'.cell? ⟨pb, 22, none⟩ = some (.int .u64 0) ∧ w'.cell? ⟨chb, 6, none⟩ = some (.int .u64 jm) ∧ w'.cell? ⟨chb, 7, none⟩ = some (.int .u64 0))
    (first | exact hSof _ ((Below.refl _ _).drew) | exact hSof _ hb5 | exact hSof _ (Below.alloc hb5 hb5.size _)) (first | (go_at_call 5; refine (minus _ _ _ _ _).mono ?_; rintro e w5 ⟨rfl, hb5'⟩; have hb5 : Below w.heap.size w w5 := ((Below.refl _ _).drew).trans hb5'; clear hb5') | (go_at_call 6; refine (all _ _ _).mono ?_; rintro e w6 ⟨rfl, rfl⟩))
  rw [minus_part jm pm hjp, show bits .andNot .u64 0 0 = 0 by decide]
  have hb6 : Below w.heap.size w (w5.alloc (.cells #[.int .u64 0, .int .u64 0] 26)) := Below.alloc hb5 hb5.size _
  have hs5 := hb5.size
  obtain ⟨W6, hW6⟩ : ∃ W6, w5.alloc (.cells #[.int .u64 0, .int .u64 0] 26) = W6 := ⟨_, rfl⟩
  have hset : W6.heap[w5.heap.size]? = some (.cells #[.int .u64 0, .int .u64 0] 26 (0, 0)) := by rw [← hW6, alloc_at, if_pos rfl]
  have hS6 : W6.heap.size = w5.heap.size + 1 := by rw [← hW6]; simp
  rw [hW6] at hb6
  rw [hW6]
  show Exit.then _ _ Exit.normal _ _
  go_wp2
  refine (wpIn_wide (n := 6)).1 ?_
  refine wpIn_rangeFunc_ownF rfl (by omega) (gf := 9) (lb := #[.pointer (some ⟨w5.heap.size, 0, none⟩)]) rfl trivial (enters_of Ybad.func9 (by kernel_rfl) rfl)
    (all_stops 5 (by omega) b0 w5.heap.size 0 n (by omega) (fun k hk => by rw [mem_zero] at hk; cases hk) W6 h0 (tab_below hT hb6 (by omega)) (by omega) ((Joins.cell_of_block hset 0).trans (by simp)) ((Joins.cell_of_block hset 1).trans (by simp)))
    belowK_t (belowK_b (by omega)) (Below.refl _ _) (fun _ => rfl)
    (fun _ W => Below W6.heap.size W6 W) (fun _ _ _ => False) (ownFrom_below (Nat.le_refl _) (Nat.le_refl _)) (fun _ _ _ _ _ hs _ _ => hs)
    (Below.refl _ _)
    (fun k => { tmps := #[.pointer (some ⟨pb, 0, none⟩), evs, .pointer (some ⟨chb, 0, none⟩), .pointer (some ⟨x1, 0, none⟩), c4, .pointer (some ⟨x2, 0, none⟩), .slice none 0 0, c7, .int .i64 k.1, c9, c10, c11, c12, c13, c14, c15, c16, c17, c18, c19, c20, c21, c22, c23, c24, c25, c26, .pointer (some ⟨chb, 0, none⟩), .pointer (some ⟨chb, 0, none⟩), .pointer (some ⟨chb, 6, none⟩), .agg #[.int .u64 jm, .int .u64 0], .pointer (some ⟨pb, 0, none⟩), .pointer (some ⟨pb, 0, none⟩), .pointer (some ⟨pb, 19, none⟩), .pointer (some ⟨pb, 21, none⟩), .agg #[.int .u64 pm, .int .u64 0], .agg #[.int .u64 0, .int .u64 0], .func (.func 9) #[] #[.pointer (some ⟨w5.heap.size, 0, none⟩)], .int .i64 k.1, c39, c40, c41, c42, c43, c44, c45, c46, c47, c48, c49, c50, c51, c52, c53, c54, c55, c56, c57, c58, c59, c60, c61, c62, c63, c64, c65, c66, c67, c68, c69, c70, c71, c72], defers := [] }) ?assign ?body ?done ?stop
  case assign =>
    intro l k W K hK
    gi_wp2
    exact hK
  case body =>
    rintro l pre k W hI hlen
    rw [mem_zero] at hlen
    exact absurd hlen (Nat.not_lt_zero _)
  case stop =>
    rintro D c pre W _ _ h _
    exact h.elim
  case done =>
    rintro D2 ys W hD2 _ hI hK2
    have hbW : Below w.heap.size w W := hb6.trans (hI.mono hb6.size)
    have hD2' : w.heap.size ≤ D2 := Nat.le_trans hb6.size hD2
    have hD2W : D2 < W.heap.size := (Array.getElem?_eq_some_iff.1 hK2).1
    clear hI hset hS6 hW6 hb6 hs5 hD2
    have dW := (hbW.block D (Array.getElem?_eq_some_iff.1 hD).1).trans hD
    obtain ⟨a1, a2, a3, a4, a5⟩ := A.out
    have pW := (hbW.block pb hpw).trans a1
    have f1 := (hbW.cell (p := ⟨x1, 0, none⟩) hxw1).trans d1
    have f2 := (hbW.cell (p := ⟨x2, 0, none⟩) hxw2).trans d2
    have g2 := (hbW.cell (p := ⟨chb, 2, none⟩) hcw).trans q2
    have g3 := (hbW.cell (p := ⟨chb, 3, none⟩) hcw).trans q3
    have g4 := (hbW.cell (p := ⟨chb, 4, none⟩) hcw).trans q4
    have g5 := (hbW.cell (p := ⟨chb, 5, none⟩) hcw).trans q5
    have r19 := (Joins.cell_of_block pW 19).trans k19
    have r20 := (Joins.cell_of_block pW 20).trans k20
    have r21 := (Joins.cell_of_block pW 21).trans k21
    have r22 := (Joins.cell_of_block pW 22).trans k22
    have r23 := (Joins.cell_of_block pW 23).trans k23
    have r24 := (Joins.cell_of_block pW 24).trans k24
    have f19 := Joins.unfrozen_of_block pW 19
    have f20 := Joins.unfrozen_of_block pW 20
    have f21 := Joins.unfrozen_of_block pW 21
    have f22 := Joins.unfrozen_of_block pW 22
    have f23 := Joins.unfrozen_of_block pW 23
    have f24 := Joins.unfrozen_of_block pW 24
    have A2 : Aside (W.heap[pb]? = some (.cells cs 53 (0, 0))) := pW
    clear a1 a2 a3 a4 a5 pW p21 p22 hSof
    have hx1p : x1 ≠ pb := by omega
    have hx2p : x2 ≠ pb := by omega
    have hSof : ∀ w' : World, But pb B W w' → But pb B W w' ∧ w'.cell? ⟨x1, 0, none⟩ = some (.pointer (some ⟨pb, 0, none⟩)) ∧ w'.cell? ⟨x2, 0, none⟩ = some (.pointer (some ⟨chb, 0, none⟩)) ∧ w'.cell? ⟨chb, 2, none⟩ = some (.int .u64 tn) ∧ w'.cell? ⟨chb, 3, none⟩ = some (.int .i64 tm) ∧ w'.cell? ⟨chb, 4, none⟩ = some (.int .u64 cm) ∧ w'.cell? ⟨chb, 5, none⟩ = some (.int .u64 0) := fun w' hb =>
      ⟨hb, (hb.cell x1 0 hx1p hx1B).trans f1, (hb.cell x2 0 hx2p hx2B).trans f2, (hb.cell chb 2 hpc (by omega)).trans g2, (hb.cell chb 3 hpc (by omega)).trans g3, (hb.cell chb 4 hpc (by omega)).trans g4, (hb.cell chb 5 hpc (by omega)).trans g5⟩
    gi_wp2
    go_wp2
    refine wp_normal ?_
    go_region_held (fun w' => But pb B W w' ∧ w'.cell? ⟨x1, 0, none⟩ = some (.pointer (some ⟨pb, 0, none⟩)) ∧ w'.cell? ⟨x2, 0, none⟩ = some (.pointer (some ⟨chb, 0, none⟩)) ∧ w'.cell? ⟨chb, 2, none⟩ = some (.int .u64 tn) ∧ w'.cell? ⟨chb, 3, none⟩ = some (.int .i64 tm) ∧ w'.cell? ⟨chb, 4, none⟩ = some (.int .u64 cm) ∧ w'.cell? ⟨chb, 5, none⟩ = some (.int .u64 0))
      (first | exact hSof _ (But.refl _ _ _).drew | exact hSof _ (((But.refl _ _ _).drew.setCell _ _).setCell _ _) | exact hSof _ (((((But.refl _ _ _).drew.setCell _ _).setCell _ _).setCell _ _).setCell _ _)) (skip)
    have sz24 : 24 < cs.size := (Array.getElem?_eq_some_iff.1 k24).1
    obtain ⟨W7, hW7⟩ : ∃ W7, ((((W.setCell ⟨pb, 19, none⟩ (.int .u64 tn)).setCell ⟨pb, 20, none⟩ (.int .i64 tm)).setCell ⟨pb, 21, none⟩ (.int .u64 cm)).setCell ⟨pb, 22, none⟩ (.int .u64 0)).drew = W7 := ⟨_, rfl⟩
    have hb7 : But pb B W W7 := by rw [← hW7]; exact (((((But.refl _ _ _).setCell _ _).setCell _ _).setCell _ _).setCell _ _).drew
    have hs7 : W7.heap.size = W.heap.size := by rw [← hW7]; simp [World.setCell, World.drew]
    have hk7 : ∀ j, j ≠ pb → W7.heap[j]? = W.heap[j]? := fun j hj => by
      rw [← hW7]
      exact (Below.heap_setCell _ _ _ _ hj).trans ((Below.heap_setCell _ _ _ _ hj).trans ((Below.heap_setCell _ _ _ _ hj).trans (Below.heap_setCell _ _ _ _ hj)))
    obtain ⟨cs7, pW7, m1, m2, m19, m20, m21, m22, m23, m24⟩ : ∃ cs7 : Array Value, W7.heap[pb]? = some (.cells cs7 53 (0, 0)) ∧ cs7[1]? = some (.slice (some ⟨nb, 0, none⟩) n n) ∧ cs7[2]? = some (.int .i64 s) ∧ cs7[19]? = some (.int .u64 tn) ∧ cs7[20]? = some (.int .i64 tm) ∧ cs7[21]? = some (.int .u64 cm) ∧ cs7[22]? = some (.int .u64 0) ∧ cs7[23]? = some u23 ∧ cs7[24]? = some u24 := by
      have hblk := Joins.block_setCell (i := 22) (Joins.block_setCell (i := 21) (Joins.block_setCell (i := 20) (Joins.block_setCell (i := 19) A2.out (.int .u64 tn)) (.int .i64 tm)) (.int .u64 cm)) (.int .u64 0)
      refine ⟨_, by rw [← hW7]; exact hblk, ?_⟩
      have z1 := k23
      have z2 := k24
      simp only [Array.getElem?_setIfInBounds, k1, k2, z1, z2, sz24, show 19 < cs.size by omega, show 20 < cs.size by omega, show 21 < cs.size by omega, show 22 < cs.size by omega]
      simp
      omega
    show Exit.then _ _ Exit.normal _ _
    rw [hW7]
    clear hW7 r19 r20 r21 r22 r23 r24 f19 f20 f21 f22 f23 f24 hSof
    have r23 := (Joins.cell_of_block pW7 23).trans m23
    have r24 := (Joins.cell_of_block pW7 24).trans m24
    have f23 := Joins.unfrozen_of_block pW7 23
    have f24 := Joins.unfrozen_of_block pW7 24
    have A3 : Aside (W7.heap[pb]? = some (.cells cs7 53 (0, 0))) := pW7
    clear pW7
    have v1 := (hb7.cell x1 0 hx1p hx1B).trans f1
    have v2 := (hb7.cell x2 0 hx2p hx2B).trans f2
    have hSof : ∀ w' : World, But pb B W7 w' → But pb B W7 w' ∧ w'.cell? ⟨x1, 0, none⟩ = some (.pointer (some ⟨pb, 0, none⟩)) ∧ w'.cell? ⟨x2, 0, none⟩ = some (.pointer (some ⟨chb, 0, none⟩)) := fun w' hb =>
      ⟨hb, (hb.cell x1 0 hx1p hx1B).trans v1, (hb.cell x2 0 hx2p hx2B).trans v2⟩
    go_wp2
    rename_i hK
    refine wp_normal ?_
    go_region_held (fun w' => But pb B W7 w' ∧ w'.cell? ⟨x1, 0, none⟩ = some (.pointer (some ⟨pb, 0, none⟩)) ∧ w'.cell? ⟨x2, 0, none⟩ = some (.pointer (some ⟨chb, 0, none⟩)))
      (first | exact hSof _ (But.refl _ _ _).drew | exact hSof _ ((But.refl _ _ _).drew.setCell _ _) | exact hSof _ (((But.refl _ _ _).drew.setCell _ _).setCell _ _)) (skip)
    obtain ⟨W8, hW8⟩ : ∃ W8, ((W7.setCell ⟨pb, 23, none⟩ (.pointer (some ⟨chb, 0, none⟩))).setCell ⟨pb, 24, none⟩ (.pointer none)).drew = W8 := ⟨_, rfl⟩
    have hb8 : But pb B W7 W8 := by rw [← hW8]; exact (((But.refl _ _ _).setCell _ _).setCell _ _).drew
    have hs8 : W8.heap.size = W.heap.size := by rw [← hW8]; simpa [World.setCell, World.drew] using hs7
    have hk8 : ∀ j, j ≠ pb → W8.heap[j]? = W.heap[j]? := fun j hj => by
      rw [← hW8]
      exact (Below.heap_setCell _ _ _ _ hj).trans ((Below.heap_setCell _ _ _ _ hj).trans (hk7 j hj))
    have hl8 : Below pb W W8 := hb7.low.trans hb8.low
    obtain ⟨cs8, pW8, l1, l2, l19, l20, l21, l22, l23, l24⟩ : ∃ cs8 : Array Value, W8.heap[pb]? = some (.cells cs8 53 (0, 0)) ∧ cs8[1]? = some (.slice (some ⟨nb, 0, none⟩) n n) ∧ cs8[2]? = some (.int .i64 s) ∧ cs8[19]? = some (.int .u64 tn) ∧ cs8[20]? = some (.int .i64 tm) ∧ cs8[21]? = some (.int .u64 cm) ∧ cs8[22]? = some (.int .u64 0) ∧ cs8[23]? = some (.pointer (some ⟨chb, 0, none⟩)) ∧ cs8[24]? = some (.pointer none) := by
      have sz7 : 24 < cs7.size := (Array.getElem?_eq_some_iff.1 m24).1
      have hblk := Joins.block_setCell (i := 24) (Joins.block_setCell (i := 23) A3.out (.pointer (some ⟨chb, 0, none⟩))) (.pointer none)
      refine ⟨_, by rw [← hW8]; exact hblk, ?_⟩
      simp only [Array.getElem?_setIfInBounds, m1, m2, m19, m20, m21, m22, sz7, show 23 < cs7.size by omega]
      simp
      omega
    show Exit.then _ _ Exit.normal _ _
    rw [hW8]
    have hbut : But pb B W W8 := ⟨by omega, fun j h1 _ => hk8 j h1, hl8⟩
    clear hW8 r23 r24 f23 f24 hSof hb7 hb8 hs7 hk7 m1 m2 m19 m20 m21 m22 m23 m24 A3 v1 v2
    have v1 := (hbut.cell x1 0 hx1p hx1B).trans f1
    obtain ⟨a1, a2, a3, a4, a5⟩ := A.out
    have hb8 : Below pb w W8 := (hbW.mono (by omega)).trans hl8
    have ht8 : TabAt 0 Lib.deBruijn64tab W8 := tab_below a4 hb8 (by omega)
    have hnm8 : ∀ k, k < n → W8.cell? ⟨nb, k, none⟩ = some (.string (nm k)) := fun k hk => (hbut.cell nb k hpn (by omega)).trans ((hbW.cell (p := ⟨nb, k, none⟩) (by show nb < w.heap.size; omega)).trans (a5 k hk))
    have hw8 : ∀ j, j ≠ pb → j < w.heap.size → W8.heap[j]? = w.heap[j]? := fun j h1 h2 => (hk8 j h1).trans (hbW.block j h2)
    have hl8' : Listed rb B zs W8 := by
      obtain ⟨v, e1, e2, ⟨e3, e4⟩ | ⟨g, cap, cur, e3, e4, e5, e6⟩⟩ := a2
      · exact ⟨v, (hw8 rb hpr (by omega)).trans e1, e2, .inl ⟨e3, e4⟩⟩
      · exact ⟨v, (hw8 rb hpr (by omega)).trans e1, e2, .inr ⟨g, cap, cur, e3, e4, (hw8 g (by omega) (Array.getElem?_eq_some_iff.1 e5).1).trans e5, e6⟩⟩
    have hev8 : W8.ownsRow E 62 15 evs L xs := by
      obtain ⟨e2, ⟨e3, e4⟩ | ⟨g, cap, cur, e3, e4, e5, e6⟩⟩ := a3
      · exact ⟨e2, .inl ⟨e3, e4⟩⟩
      · exact ⟨e2, .inr ⟨g, cap, cur, e3, e4, (hw8 g (by omega) (Array.getElem?_eq_some_iff.1 e5).1).trans e5, e6⟩⟩
    have hDw := (Array.getElem?_eq_some_iff.1 hD).1
    exact hK _ _ (install_C b0 E B pb chb rb nb n s cm x1 x2 D D2 L tn tm nm xs zs evs cs8 w0 W8 (hw0.trans (hb8.mono hbp)) (fun j h1 h2 h3 => (hw8 j h1 (by omega)).trans (hsame j h1 h2 h3)) h0 hbp hpE hrE hnE hEB (by omega) ht8 pW8 l1 l2 l19 l20 l21 l22 l23 l24 v1 hnm8 hn hs hcm hl8' hev8 hevB hL ((hk8 D (by omega)).trans dW) hDB ((hk8 D2 (by omega)).trans hK2) (by omega) (by omega) _ _ _ _ _ _ _ _ _ _ _ _ _ _ _ _ _ _ _ _ _ _ _ _ _ _ _ _ _ _ _ _ _ _ _ _ _ _ _ _ _ _ _ _ _ _ _ _ _ _ _ _ _ _ _ _ _ _ _ _ _ _ _ _ _ _ _)
end Go.Proofs.YbulkceouDoor
