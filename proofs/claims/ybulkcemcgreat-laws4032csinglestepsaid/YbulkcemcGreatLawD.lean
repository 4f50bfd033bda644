/-
  LawS4032CSingleStep: the law's call of 'refillsOver' (seat b4032aZ).
-/
import Derived.Test.YbulkcemcGreatLawE
namespace Go.Proofs.YbulkcemcGreat
open Go.RowKit Go.Shelf Go.Lib

noncomputable def lawD : Code := (Ybaz.f3.body.bind (fromR 22)).getD .skip

set_option linter.unusedSimpArgs false in
set_option maxRecDepth 100000 in
set_option maxHeartbeats 1000000 in
theorem law_D (sb sc ob oc step : Nat) (X : Ser) (S : List Int) (lo U : Int) (w0 w : World) (B : Nat) (hb : Below B w0 w) (hB : B ≤ w.heap.size) (hX0 : 0 < X.length) (hXl : X.length ≤ 900) (hXS : ∀ x ∈ X, x.2 ∈ S) (hXr : ∀ x ∈ X, -3000000000 ≤ x.1 ∧ x.1 ≤ 3000000000) (hlo : -2147483648 ≤ lo ∧ lo ≤ 2147483647) (hU : 0 ≤ U ∧ U ≤ 65535)
    (hob : ob < w.heap.size) (hS : SmsAt w sb S) (hO : SerAt w ob X step) (hs0 : 0 < step) (hs1 : step ≤ 1000) (R : Ending → World → Prop) (hR : ∀ w', Below B w0 w' → R (.returned (.bool true)) w') (c0 c1 c2 c5 c6 c7 c8 c9 c10 c12 c13 c16 c17 c18 c19 c20 c21 c22 c23 c24 c25 c26 c27 c28 c29 c30 c31 c32 c33 c34 c35 c36 c37 c38 c39 c40 c41 c42 c43 c44 c45 c46 c47 c48 c49 c50 c51 c52 c53 c54 c55 c56 c57 c58 c59 c60 c61 c62 c63 c64 c65 c66 c67 c68 c69 c70 c71 c72 c73 c74 c75 c76 c77 c78 c79 c80 c81 c82 c83 c84 c85 c86 c87 c88 c89 c90 c91 c92 c93 c94 c95 c96 c97 c98 c99 c100 c101 c102 c103 c104 c105 c106 c107 c108 c109 c110 c111 c112 c113 c114 c115 c116 c117 c118 c119 c120 c121 c122 c123 c124 c125 c126 c127 c128 c129 c130 c131 c132 c133 c134 c135 c136 c137 c138 c139 c140 c141 c142 c143 c144 c145 c146 c147 c148 c149 c150 c151 c152 c153 c154 c155 c156 c157 c158 c159 c160 c161 c162 c163 c164 c165 c166 c167 c168 c169 c170 c171 c172 c173 c174 c175 c176 c177 c178 c179 c180 c181 c182 c183 c184 c185 c186 c187 c188 c189 c190 c191 c192 c193 c194 c195 c196 c197 c198 c199 c200 c201 c202 c203 c204 c205 c206 : Value) :
    lawD.wp Ybaz.prog (bodyPost Ybaz.prog Ybaz.f3 R) ⟨#[c0, c1, c2, .int .i32 lo, .int .u16 U, c5, c6, c7, c8, c9, c10, .slice (some ⟨sb, 0, none⟩) S.length sc, c12, c13, .int .i64 step, .slice (some ⟨ob, 0, none⟩) X.length oc, c16, c17, c18, c19, c20, c21, c22, c23, c24, c25, c26, c27, c28, c29, c30, c31, c32, c33, c34, c35, c36, c37, c38, c39, c40, c41, c42, c43, c44, c45, c46, c47, c48, c49, c50, c51, c52, c53, c54, c55, c56, c57, c58, c59, c60, c61, c62, c63, c64, c65, c66, c67, c68, c69, c70, c71, c72, c73, c74, c75, c76, c77, c78, c79, c80, c81, c82, c83, c84, c85, c86, c87, c88, c89, c90, c91, c92, c93, c94, c95, c96, c97, c98, c99, c100, c101, c102, c103, c104, c105, c106, c107, c108, c109, c110, c111, c112, c113, c114, c115, c116, c117, c118, c119, c120, c121, c122, c123, c124, c125, c126, c127, c128, c129, c130, c131, c132, c133, c134, c135, c136, c137, c138, c139, c140, c141, c142, c143, c144, c145, c146, c147, c148, c149, c150, c151, c152, c153, c154, c155, c156, c157, c158, c159, c160, c161, c162, c163, c164, c165, c166, c167, c168, c169, c170, c171, c172, c173, c174, c175, c176, c177, c178, c179, c180, c181, c182, c183, c184, c185, c186, c187, c188, c189, c190, c191, c192, c193, c194, c195, c196, c197, c198, c199, c200, c201, c202, c203, c204, c205, c206], []⟩ w := by
  obtain ⟨n, hnU⟩ : ∃ n : Nat, U % 2001 = n := ⟨(U % 2001).toNat, by omega⟩
  have hn : n ≤ 2000 := by omega
  have htm : U.tmod 2001 = n := by rw [Int.tmod_eq_emod_of_nonneg hU.1]; exact hnU
  have hov := over6 ob oc sb sc step n X S lo (lo + n) w hX0 hXl hXS hXr (by omega) hob hS.lt hS hO hs0 hs1 (by omega) (by omega)
  have hok : ∀ k : Nat, dueAt X step (lo + k) ≠ [] → Ok S.length (rmap S (dueAt X step (lo + k))) := fun k h0 => ok_rmap h0 (fun x hx => by
    obtain ⟨y, hy, e⟩ := dueAt_mem hx
    rw [← e]; exact hXS y hy) (by have := dueAt_len X step (lo + k); omega)
  have hlen := (comp_ok (R := rmap S) (E := fun i => dueAt X step (lo + i)) (n := S.length) hok n).len
  have hAR : Aside (∀ w', Below B w0 w' → R (.returned (.bool true)) w') := hR
  have hA : Aside (SmsAt w sb S ∧ SerAt w ob X step ∧ (∀ x ∈ X, x.2 ∈ S) ∧ (∀ x ∈ X, -3000000000 ≤ x.1 ∧ x.1 ≤ 3000000000)) := ⟨hS, hO, hXS, hXr⟩
  have hsb := hS.lt
  have hSf := hS.few
  clear hS hO hXS hXr hok hR hnU
  conv => arg 2; whnf
  go_wp2_with (go_at_call 6; refine hov.mono ?_; rintro e w1 ⟨v1, rfl, hm1, hb1⟩; refine Veil.off ?_)
  unfold Veil
  clear hov
  obtain ⟨g1, c1', hv1, hg1, hgc⟩ := hm1
  rw [hlen] at hv1
  have hm1' : Aside (MapAt w1 v1 (comp (rmap S) (fun i => dueAt X step (lo + i)) S.length n)) := ⟨g1, c1', by rw [hlen]; exact hv1, hg1, hgc⟩
  subst hv1
  clear hgc
  obtain ⟨zc, hzs, hmkr⟩ := make25 w1 S.length hSf
  go_wp2
  clear hmkr
  rename_i K1 hK1
  have hK1' : Aside (∀ (a : Act) (w : World), _ → K1 a w) := hK1
  clear hK1
  go_loopg [120] (S.length + 1) (fun q vi wr => ∃ i : Nat, vi = .int .i64 i ∧ i ≤ S.length ∧ S.length - i < q ∧ Filling w1 wr w1.heap.size S.length i (fun j => j))
  case atStart => exact ⟨0, rfl, Nat.zero_le _, by omega, (Below.refl _ _).alloc (Nat.le_refl _) _, zc, by rw [alloc_at, if_pos rfl], hzs, fun j hj => absurd hj (Nat.not_lt_zero _)⟩
  case round =>
    obtain ⟨i, rfl, hin, hq, hF⟩ := hrel
    by_cases hlt : i < S.length
    · have A : Aside (Filling w1 wr w1.heap.size S.length i (fun j => j)) := hF
      obtain ⟨hbF, cur, hc, hs, hd⟩ := hF
      have hlt' : (i : Int) < (S.length : Int) := by omega
      have hc1 : wr.cell? ⟨w1.heap.size, i, none⟩ = some cur[i] := (Joins.cell_of_block hc _).trans (by simp [hs, hlt])
      have hf1 := Joins.unfrozen_of_block hc i
      clear hbF hc hd
      generalize cur[i] = old at hc1
      go_wp2
      go_roundg (S.length - i)
      case measure => omega
      case rel => exact ⟨i + 1, by go_num, by omega, by omega, A.out.step hlt⟩
    · obtain rfl : i = S.length := by omega
      go_wp2
      have h2 : MapAt wr (.slice (some ⟨w1.heap.size, 0, none⟩) S.length S.length) (List.range S.length) := by
        obtain ⟨hbF, cur, hc, hs, hd⟩ := hF
        refine ⟨_, _, by rw [List.length_range], (Array.getElem?_eq_some_iff.1 hc).1, fun j x hj => ?_⟩
        have hjl := (List.getElem?_eq_some_iff.1 hj).1
        simp only [List.length_range] at hjl
        rw [Joins.cell_of_block hc, hd j hjl]
        simp [hjl] at hj
        rw [hj]
      have hbw : Below w.heap.size w wr := hb1.trans (hF.below.mono hb1.size)
      have hOr : SerAt wr ob X step := fun j x hx => by
        obtain ⟨o0, o1, o2⟩ := hA.out.2.1 j x hx
        exact ⟨(hbw.cell (p := ⟨ob, j * 3, none⟩) hob).trans o0, (hbw.cell (p := ⟨ob, j * 3 + 1, none⟩) hob).trans o1, (hbw.cell (p := ⟨ob, j * 3 + 2, none⟩) hob).trans o2⟩
      exact hK1'.out _ _ (law_E sb sc ob oc step n g1 c1' w1.heap.size S.length X S lo (lo + n) w0 wr B (hb.trans (hbw.mono hB)) (Nat.le_trans hB hbw.size) hXl hA.out.2.2.1 hA.out.2.2.2 (by omega) (Nat.lt_of_lt_of_le hob hbw.size) (hA.out.1.below hbw hsb) hOr hs0 hs1 hn rfl (hm1'.out.below hF.below (Nat.le_refl _)) h2 R hAR.out _ _ _ _ _ _ _ _ _ _ _ _ _ _ _ _ _ _ _ _ _ _ _ _ _ _ _ _ _ _ _ _ _ _ _ _ _ _ _ _ _ _ _ _ _ _ _ _ _ _ _ _ _ _ _ _ _ _ _ _ _ _ _ _ _ _ _ _ _ _ _ _ _ _ _ _ _ _ _ _ _ _ _ _ _ _ _ _ _ _ _ _ _ _ _ _ _ _ _ _ _ _ _ _ _ _ _ _ _ _ _ _ _ _ _ _ _ _ _ _ _ _ _ _ _ _ _ _ _ _ _ _ _ _ _ _ _ _ _ _ _ _ _ _ _ _ _ _ _ _ _ _ _ _ _ _ _ _ _ _ _ _ _ _ _ _ _ _ _ _ _ _ _ _ _ _ _ _ _ _ _ _ _ _ _ _ _ _ _ _ _ _ _ _ _ _ _ _ _ _)
end Go.Proofs.YbulkcemcGreat
