/-
  LawS4032CSingleStep: 'refillsOver', its last part (seat b4032aZ).
-/
import Derived.Test.YbulkcemcGreatTogether
namespace Go.Proofs.YbulkcemcGreat
open Go.RowKit

theorem none40 (W : World) (fv : Value) : Calls Ybaz.prog 40 #[.slice none 0 0, fv] W fun e w' => e = .returned (.tuple #[]) ∧ w' = W := AnyF.slices_SortFunc_none Ybaz.sortD none 0 fv W

theorem spanD_ok {D : List (Int × List Nat)} {n : Nat} (h : ∀ g ∈ D, Ok n g.2) (k : Int) : Ok n (spanD D n k) := by
  unfold spanD
  have : ∀ (l : List (Int × List Nat)) (m : List Nat), (∀ g ∈ l, Ok n g.2) → Ok n m → Ok n (l.foldl (fun m g => thenL m g.2) m) := by
    intro l
    induction l with
    | nil => intro m _ hm; exact hm
    | cons a t ih => intro m hl hm; exact ih _ (fun g hg => hl g (by simp [hg])) (hm.then (hl a (by simp)))
  exact this _ _ (fun g hg => h g ((List.takeWhile_sublist _).subset hg)) (ok_range n)

noncomputable def roD : Code := (Ybaz.f6.body.bind (fromR 25)).getD .skip

set_option linter.unusedSimpArgs false in
set_option maxRecDepth 100000 in
set_option maxHeartbeats 1000000 in
theorem rover_D (spb g m n : Nat) (D : List (Int × List Nat)) (step N r : Nat) (lo hi : Int) (w0 w : World) (B : Nat) (hB : B ≤ w.heap.size) (hw0 : Below B w0 w) (hS : SpanAt w spb g m n D) (hn : n ≤ 256) (hm : m ≤ 1000) (hs0 : 0 < step) (hs1 : step ≤ 1000) (hr : r < step) (hN : N ≤ 100000) (hd : hi - lo = ((N * step + r : Nat) : Int))
    (hc0 : w.cell? ⟨spb, 0, none⟩ = some (.int .i64 step)) (hc1 : w.cell? ⟨spb, 1, none⟩ = some (.int .i64 0)) (R : Ending → World → Prop) (hR : ∀ v w', MapAt w' v (thenL (powL n (spanD D n step) N) (spanD D n r)) → Below B w0 w' → R (.returned v) w') (c0 c3 c4 c5 c6 c7 c8 c10 c11 c12 c13 c14 c15 c16 c17 c18 c19 c20 c21 c22 c23 c24 c25 c26 c27 c28 c29 c30 c31 c32 c33 c34 c35 c36 c37 c38 c39 c40 c41 c42 c43 c44 c45 c46 c47 c48 c49 c50 c51 c52 c53 c54 c55 c56 c57 c58 c59 c60 c61 c62 c63 c64 c65 c66 c67 c68 c69 c70 c71 c72 c73 c74 c75 c76 c77 c78 c79 c80 c81 c82 c83 c84 c85 c86 c87 c88 c89 c90 c91 c92 c93 c94 c95 c96 c97 c98 c99 c100 c101 c102 c103 c104 c105 c106 c107 c108 c109 c110 c111 c112 c113 c114 c115 c116 c117 c118 c119 c120 c121 c122 c123 c124 c125 c126 c127 c128 c129 c130 c131 c132 c133 c134 c135 c136 c137 c138 c139 c140 c141 c142 c143 c144 c145 c146 c147 c148 c149 c150 c151 c152 c153 c154 c155 c156 c157 c158 c159 c160 c161 c162 c163 c164 c165 c166 c167 c168 c169 c170 c171 c172 c173 c174 c175 c176 c177 c178 c179 c180 c181 c182 c183 c184 c185 c186 c187 c188 c189 : Value) :
    roD.wp Ybaz.prog (bodyPost Ybaz.prog Ybaz.f6 R) ⟨#[c0, .int .i64 lo, .int .i64 hi, c3, c4, c5, c6, c7, c8, .pointer (some ⟨spb, 0, none⟩), c10, c11, c12, c13, c14, c15, c16, c17, c18, c19, c20, c21, c22, c23, c24, c25, c26, c27, c28, c29, c30, c31, c32, c33, c34, c35, c36, c37, c38, c39, c40, c41, c42, c43, c44, c45, c46, c47, c48, c49, c50, c51, c52, c53, c54, c55, c56, c57, c58, c59, c60, c61, c62, c63, c64, c65, c66, c67, c68, c69, c70, c71, c72, c73, c74, c75, c76, c77, c78, c79, c80, c81, c82, c83, c84, c85, c86, c87, c88, c89, c90, c91, c92, c93, c94, c95, c96, c97, c98, c99, c100, c101, c102, c103, c104, c105, c106, c107, c108, c109, c110, c111, c112, c113, c114, c115, c116, c117, c118, c119, c120, c121, c122, c123, c124, c125, c126, c127, c128, c129, c130, c131, c132, c133, c134, c135, c136, c137, c138, c139, c140, c141, c142, c143, c144, c145, c146, c147, c148, c149, c150, c151, c152, c153, c154, c155, c156, c157, c158, c159, c160, c161, c162, c163, c164, c165, c166, c167, c168, c169, c170, c171, c172, c173, c174, c175, c176, c177, c178, c179, c180, c181, c182, c183, c184, c185, c186, c187, c188, c189], []⟩ w := by
  conv => arg 2; whnf
  have hbnd : hi - lo ≤ 200000000 ∧ 0 ≤ hi - lo := by
    rw [hd]
    have : N * step ≤ 100000 * 1000 := Nat.mul_le_mul hN hs1
    omega
  have hsub : wrap64 (hi - lo) = ((N * step + r : Nat) : Int) := by rw [← hd]; unfold wrap64; omega
  have hne : ((step : Int) == 0) = false := by simp; omega
  have hdiv : Int.tdiv ((N * step + r : Nat) : Int) (step : Int) = (N : Int) := by
    rw [Int.tdiv_eq_ediv_of_nonneg (by omega)]
    have : (N * step + r) / step = N := by rw [Nat.mul_comm, Nat.mul_add_div hs0, Nat.div_eq_of_lt hr]; omega
    omega
  have hmod : Int.tmod ((N * step + r : Nat) : Int) (step : Int) = (r : Int) := by
    rw [Int.tmod_eq_emod_of_nonneg (by omega)]
    have : (N * step + r) % step = r := by rw [Nat.mul_comm, Nat.mul_add_mod, Nat.mod_eq_of_lt hr]
    omega
  generalize hT : ((N * step + r : Nat) : Int) = T at *
  have hOk : ∀ x ∈ D, Ok n x.2 := fun x hx => by
    obtain ⟨i, hi', hxi⟩ := List.mem_iff_getElem.1 hx
    obtain ⟨_, v, _, _, hok⟩ := hS.at_ i x.1 x.2 (by rw [List.getElem?_eq_getElem hi', hxi])
    exact hok
  have hA : Aside (SpanAt w spb g m n D) := hS
  clear hS
  go_wp2
  go_quiet (fail)
  have hA1 := hA.out.below (below_drewN w.heap.size w nq)
  have hwq := hw0.trans (below_drewN B w nq)
  have d0 : (w.drewN nq).cell? ⟨spb, 0, none⟩ = some (.int .i64 step) := hc0
  have d1 : (w.drewN nq).cell? ⟨spb, 1, none⟩ = some (.int .i64 0) := hc1
  have hBq : B ≤ (w.drewN nq).heap.size := hB
  clear hw0 hc0 hc1 hA hB
  generalize w.drewN nq = W at *
  have hS1 := spanM none40 spb g m n D step W hA1 hn hm
  go_wp2_with (go_at_call 17; refine hS1.mono ?_; rintro e w1 ⟨v1, rfl, hm1, hb1⟩; refine Veil.off ?_)
  unfold Veil
  clear hS1
  have hP := powM n N (spanD D n step) v1 w1 hm1 (spanD_ok hOk _) hn hN
  go_wp2_with (go_at_call 18; refine hP.mono ?_; rintro e w2 ⟨v2, rfl, hm2, hb2⟩; refine Veil.off ?_)
  unfold Veil
  clear hP
  have hA2 := hA1.below (hb1.trans (hb2.mono hb1.size))
  have hS2 := spanM none40 spb g m n D r w2 hA2 hn hm
  go_wp2_with (go_at_call 17; refine hS2.mono ?_; rintro e w3 ⟨v3, rfl, hm3, hb3⟩; refine Veil.off ?_)
  unfold Veil
  clear hS2
  have ok1 := ok_pow (spanD_ok hOk (step : Int)) N
  have ok2 := spanD_ok hOk (r : Int)
  have hTh := thenM _ _ v2 v3 w3 (hm2.below hb3 (Nat.le_refl _)) hm3 (fun j hj => by rw [ok2.len]; exact ok1.lt j hj) (by rw [ok1.len]; exact hn)
  go_wp2_with (go_at_call 19; refine hTh.mono ?_; rintro e w4 ⟨v4, rfl, hm4, hb4⟩)
  have s1 := hb1.size
  have s2 := hb2.size
  have s3 := hb3.size
  exact hR _ _ hm4 ((((hwq.trans (hb1.mono (by omega))).trans (hb2.mono (by omega))).trans (hb3.mono (by omega))).trans (hb4.mono (by omega)))
end Go.Proofs.YbulkcemcGreat
