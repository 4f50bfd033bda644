/-
  LawS4032CSingleStep: the law's last statements (seat b4032aZ).
-/
import Derived.Test.YbulkcemcGreatRover
namespace Go.Proofs.YbulkcemcGreat
open Go.RowKit

noncomputable def lawF : Code := (Ybaz.f3.body.bind (fromR 52)).getD .skip

set_option linter.unusedSimpArgs false in
set_option maxRecDepth 100000 in
set_option maxHeartbeats 1000000 in
theorem law_F (g1 c1' g2 c2' : Nat) (f : List Nat) (w0 w : World) (B : Nat) (hb : Below B w0 w) (h1 : MapAt w (.slice (some ⟨g1, 0, none⟩) f.length c1') f) (h2 : MapAt w (.slice (some ⟨g2, 0, none⟩) f.length c2') f) (hf : f.length ≤ 256) (R : Ending → World → Prop) (hR : ∀ w', Below B w0 w' → R (.returned (.bool true)) w') (c0 c1 c2 c3 c4 c5 c6 c7 c8 c9 c10 c11 c12 c13 c14 c15 c16 c17 c18 c19 c22 c23 c24 c25 c26 c27 c28 c29 c30 c31 c32 c33 c34 c35 c36 c37 c38 c39 c40 c41 c42 c43 c44 c45 c46 c47 c48 c49 c50 c51 c52 c53 c54 c55 c56 c57 c58 c59 c60 c61 c62 c63 c64 c65 c66 c67 c68 c69 c70 c71 c72 c73 c74 c75 c76 c77 c78 c79 c80 c81 c82 c83 c84 c85 c86 c87 c88 c89 c90 c91 c92 c93 c94 c95 c96 c97 c98 c99 c100 c101 c102 c103 c104 c105 c106 c107 c108 c109 c110 c111 c112 c113 c114 c115 c116 c117 c118 c119 c120 c121 c122 c123 c124 c125 c126 c127 c128 c129 c130 c131 c132 c133 c134 c135 c136 c137 c138 c139 c140 c141 c142 c143 c144 c145 c146 c147 c148 c149 c150 c151 c152 c153 c154 c155 c156 c157 c158 c159 c160 c161 c162 c163 c164 c165 c166 c167 c168 c169 c170 c171 c172 c173 c174 c175 c176 c177 c178 c179 c180 c181 c182 c183 c184 c185 c186 c187 c188 c189 c190 c191 c192 c193 c194 c195 c196 c197 c198 c199 c200 c201 c202 c203 c204 c205 c206 : Value) :
    lawF.wp Ybaz.prog (bodyPost Ybaz.prog Ybaz.f3 R) ⟨#[c0, c1, c2, c3, c4, c5, c6, c7, c8, c9, c10, c11, c12, c13, c14, c15, c16, c17, c18, c19, .slice (some ⟨g1, 0, none⟩) f.length c1', .slice (some ⟨g2, 0, none⟩) f.length c2', c22, c23, c24, c25, c26, c27, c28, c29, c30, c31, c32, c33, c34, c35, c36, c37, c38, c39, c40, c41, c42, c43, c44, c45, c46, c47, c48, c49, c50, c51, c52, c53, c54, c55, c56, c57, c58, c59, c60, c61, c62, c63, c64, c65, c66, c67, c68, c69, c70, c71, c72, c73, c74, c75, c76, c77, c78, c79, c80, c81, c82, c83, c84, c85, c86, c87, c88, c89, c90, c91, c92, c93, c94, c95, c96, c97, c98, c99, c100, c101, c102, c103, c104, c105, c106, c107, c108, c109, c110, c111, c112, c113, c114, c115, c116, c117, c118, c119, c120, c121, c122, c123, c124, c125, c126, c127, c128, c129, c130, c131, c132, c133, c134, c135, c136, c137, c138, c139, c140, c141, c142, c143, c144, c145, c146, c147, c148, c149, c150, c151, c152, c153, c154, c155, c156, c157, c158, c159, c160, c161, c162, c163, c164, c165, c166, c167, c168, c169, c170, c171, c172, c173, c174, c175, c176, c177, c178, c179, c180, c181, c182, c183, c184, c185, c186, c187, c188, c189, c190, c191, c192, c193, c194, c195, c196, c197, c198, c199, c200, c201, c202, c203, c204, c205, c206], []⟩ w := by
  conv => arg 2; whnf
  have hc1 : ∀ j x : Nat, f[j]? = some x → w.cell? ⟨g1, j, none⟩ = some (.int .i64 x) := by
    obtain ⟨g, c, e, _, h⟩ := h1
    cases e
    exact h
  have hc2 : ∀ j x : Nat, f[j]? = some x → w.cell? ⟨g2, j, none⟩ = some (.int .i64 x) := by
    obtain ⟨g, c, e, _, h⟩ := h2
    cases e
    exact h
  clear h1 h2
  have hA : Aside ((∀ j x : Nat, f[j]? = some x → w.cell? ⟨g1, j, none⟩ = some (.int .i64 x)) ∧ (∀ j x : Nat, f[j]? = some x → w.cell? ⟨g2, j, none⟩ = some (.int .i64 x))) := ⟨hc1, hc2⟩
  clear hc1 hc2
  go_wp2
  go_loopg [194] (f.length + 1) (fun q vi wr => ∃ i n : Nat, vi = .int .i64 i ∧ i ≤ f.length ∧ f.length - i < q ∧ wr = w.drewN n)
  case atStart => exact ⟨0, 0, rfl, Nat.zero_le _, by omega, rfl⟩
  case round =>
    obtain ⟨i, n, rfl, hi, hq, hw⟩ := hrel
    rw [hw]
    clear hw wr
    by_cases hlt : i < f.length
    · obtain ⟨x, hx⟩ : ∃ x, f[i]? = some x := ⟨_, List.getElem?_eq_getElem hlt⟩
      have d1 := hA.out.1 i x hx
      have d2 := hA.out.2 i x hx
      have hlt' : (i : Int) < (f.length : Int) := by omega
      go_wp2
      go_quiet (fail)
      go_wp2
      go_roundg (f.length - i)
      case measure => omega
      case rel => exact ⟨i + 1, _, by go_num, by omega, by omega, rfl⟩
    · obtain rfl : i = f.length := by omega
      go_wp2
      exact hb.trans (below_drewN _ _ _)
end Go.Proofs.YbulkcemcGreat
