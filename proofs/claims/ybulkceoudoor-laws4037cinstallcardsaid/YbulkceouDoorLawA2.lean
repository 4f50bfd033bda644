/-
  LawS4037CInstall: the law lays its sets, its views and its rule (seat b4037aD).
-/
import Derived.Test.YbulkceouDoorLawA3
namespace Go.Proofs.YbulkceouDoor
open Go.RowKit Go.Shelf

noncomputable def lA2 : Code := (Ybad.f3.body.bind (fromR 11)).getD .skip

set_option linter.unusedSimpArgs false in
set_option maxRecDepth 100000 in
set_option maxHeartbeats 2000000 in
theorem law_A2 (N n nb self P C J M L pc : Nat) (tn tm : Int) (nm ps : Nat → ByteArray) (pa : Option Addr) (w0 w : World)
    (hn0 : 0 < n) (hn : n ≤ 64) (hself : self ≤ 255) (hP : P < 2 ^ 64) (hC : C < 2 ^ 64) (hJ : J < 2 ^ 64) (hM : M = 2 ^ n - 1) (hL : L ≤ 1024) (hN0 : 0 < N)
    (hNw : N ≤ w.heap.size) (hnb : nb < w.heap.size)
    (hT : TabAt 0 Lib.deBruijn64tab w)
    (hnm : ∀ k, k < n → w.cell? ⟨nb, k, none⟩ = some (.string (nm k)))
    (hpre : ∀ j, j < L → ∃ bb oo, pa = some ⟨bb, oo, none⟩ ∧ bb < N ∧ w.cell? ⟨bb, oo + j, none⟩ = some (.string (ps j)))
    (Hfin : Aside (Below N w0 w)) (c0 c8 c9 c10 c11 c12 c13 c14 c15 c16 c20 c21 c22 c23 c24 c25 c26 c27 c28 c29 c30 c31 c32 c33 c34 c35 c36 c37 c38 c39 c40 c41 c42 c43 c44 c45 c46 c47 c48 c49 c50 c51 c52 c53 c54 c55 c56 c57 c58 c59 c60 c61 c62 c63 c64 c65 c66 c67 c68 c69 c70 c71 c72 c73 c74 c75 c76 c77 c78 c79 c80 c81 c82 c83 c84 c85 c86 c87 c88 c89 c90 c91 c92 c93 c94 c95 c96 c97 c98 c99 c100 c101 c102 c103 c104 c105 c106 c107 c108 c109 c110 c111 c112 c113 c114 c115 c116 c117 c118 c119 c120 c121 c122 c123 c124 c125 c126 c127 c128 c129 c130 c131 c132 c133 c134 c135 c136 c137 c138 c139 c140 c141 c142 c143 c144 c145 c146 c147 c148 c149 c150 c151 c152 c153 c154 c155 c156 c157 c158 c159 c160 c161 c162 c163 c164 c165 c166 c167 c168 c169 c170 c171 c172 c173 c174 c175 c176 c177 c178 c179 c180 c181 c182 c183 c184 c185 c186 c187 c188 c189 c190 c191 c192 c193 c194 c195 c196 c197 c198 c199 c200 c201 c202 c203 c204 c205 c206 c207 c208 c209 c210 c211 c212 c213 c214 c215 c216 c217 c218 c219 c220 c221 c222 c223 c224 c225 c226 c227 c228 c229 c230 c231 c232 c233 c234 c235 c236 c237 c238 c239 c240 c241 c242 c243 c244 c245 c246 c247 c248 c249 c250 c251 c252 c253 c254 c255 c256 c257 c258 c259 c260 c261 c262 c263 c264 c265 c266 c267 c268 c269 c270 c271 c272 c273 c274 c275 c276 c277 c278 c279 c280 c281 c282 c283 c284 c285 c286 c287 c288 c289 c290 c291 c292 c293 c294 c295 c296 c297 c298 c299 c300 c301 c302 c303 c304 c305 c306 c307 c308 c309 c310 c311 c312 c313 : Value) :
    lA2.wp Ybad.prog (bodyPost Ybad.prog Ybad.f3 fun e w' => e = .returned (.bool true) ∧ Below N w0 w') ⟨#[c0, .int .u8 self, .int .u64 P, .int .u64 C, .int .u64 J, .int .u64 tn, .int .i64 tm, .slice pa L pc, c8, c9, c10, c11, c12, c13, c14, c15, c16, .int .i64 n, .slice (some ⟨nb, 0, none⟩) n n, .int .u64 M, c20, c21, c22, c23, c24, c25, c26, c27, c28, c29, c30, c31, c32, c33, c34, c35, c36, c37, c38, c39, c40, c41, c42, c43, c44, c45, c46, c47, c48, c49, c50, c51, c52, c53, c54, c55, c56, c57, c58, c59, c60, c61, c62, c63, c64, c65, c66, c67, c68, c69, c70, c71, c72, c73, c74, c75, c76, c77, c78, c79, c80, c81, c82, c83, c84, c85, c86, c87, c88, c89, c90, c91, c92, c93, c94, c95, c96, c97, c98, c99, c100, c101, c102, c103, c104, c105, c106, c107, c108, c109, c110, c111, c112, c113, c114, c115, c116, c117, c118, c119, c120, c121, c122, c123, c124, c125, c126, c127, c128, c129, c130, c131, c132, c133, c134, c135, c136, c137, c138, c139, c140, c141, c142, c143, c144, c145, c146, c147, c148, c149, c150, c151, c152, c153, c154, c155, c156, c157, c158, c159, c160, c161, c162, c163, c164, c165, c166, c167, c168, c169, c170, c171, c172, c173, c174, c175, c176, c177, c178, c179, c180, c181, c182, c183, c184, c185, c186, c187, c188, c189, c190, c191, c192, c193, c194, c195, c196, c197, c198, c199, c200, c201, c202, c203, c204, c205, c206, c207, c208, c209, c210, c211, c212, c213, c214, c215, c216, c217, c218, c219, c220, c221, c222, c223, c224, c225, c226, c227, c228, c229, c230, c231, c232, c233, c234, c235, c236, c237, c238, c239, c240, c241, c242, c243, c244, c245, c246, c247, c248, c249, c250, c251, c252, c253, c254, c255, c256, c257, c258, c259, c260, c261, c262, c263, c264, c265, c266, c267, c268, c269, c270, c271, c272, c273, c274, c275, c276, c277, c278, c279, c280, c281, c282, c283, c284, c285, c286, c287, c288, c289, c290, c291, c292, c293, c294, c295, c296, c297, c298, c299, c300, c301, c302, c303, c304, c305, c306, c307, c308, c309, c310, c311, c312, c313], []⟩ w := by
  conv => arg 2; whnf
  have hM1 : M < 2 ^ n := by have := Nat.two_pow_pos n; omega
  have hM64 : M < 2 ^ 64 := Nat.lt_of_lt_of_le hM1 (Nat.pow_le_pow_right (by omega) hn)
  obtain ⟨pm, hpmE⟩ : ∃ pm, pm = P &&& M := ⟨_, rfl⟩
  obtain ⟨cm, hcmE⟩ : ∃ cm, cm = C &&& M := ⟨_, rfl⟩
  obtain ⟨jm, hjmE⟩ : ∃ jm, jm = J &&& pm := ⟨_, rfl⟩
  have hpm : pm < 2 ^ n := by rw [hpmE]; exact Nat.lt_of_le_of_lt Nat.and_le_right hM1
  have hcm : cm < 2 ^ n := by rw [hcmE]; exact Nat.lt_of_le_of_lt Nat.and_le_right hM1
  have hpm64 : pm < 2 ^ 64 := Nat.lt_of_lt_of_le hpm (Nat.pow_le_pow_right (by omega) hn)
  have hbp : bits .and .u64 (P : Int) (M : Int) = (pm : Int) := by rw [hpmE]; exact bits_and_u64_nat P M (by omega) (by omega)
  have hbc : bits .and .u64 (C : Int) (M : Int) = (cm : Int) := by rw [hcmE]; exact bits_and_u64_nat C M (by omega) (by omega)
  have hbj : bits .and .u64 (J : Int) (pm : Int) = (jm : Int) := by rw [hjmE]; exact bits_and_u64_nat J pm (by omega) (by omega)
  have hjp : ∀ i, i < 64 → jm.testBit i = true → pm.testBit i = true := fun i _ h => by
    rw [hjmE, Nat.testBit_and] at h
    simp at h
    exact h.2
  have hB : Aside (TabAt 0 Lib.deBruijn64tab w ∧ (∀ k, k < n → w.cell? ⟨nb, k, none⟩ = some (.string (nm k))) ∧ (∀ j, j < L → ∃ bb oo, pa = some ⟨bb, oo, none⟩ ∧ bb < N ∧ w.cell? ⟨bb, oo + j, none⟩ = some (.string (ps j))) ∧ ∀ i, i < 64 → jm.testBit i = true → pm.testBit i = true) := ⟨hT, hnm, hpre, hjp⟩
  clear hT hnm hpre hjp hpmE hcmE hjmE hM
  refine wp_seq_k fun K11 hK11 => ?_
  have hK11' : Aside (∀ (a : Act) (w : World), _ → K11 a w) := hK11
  clear hK11
  go_wp2
  refine hK11'.out _ _ ?_
  clear hK11'
  refine wp_seq_k fun K12 hK12 => ?_
  have hK12' : Aside (∀ (a : Act) (w : World), _ → K12 a w) := hK12
  clear hK12
  go_wp2
  refine hK12'.out _ _ ?_
  clear hK12'
  refine wp_seq_k fun K13 hK13 => ?_
  have hK13' : Aside (∀ (a : Act) (w : World), _ → K13 a w) := hK13
  clear hK13
  go_wp2
  refine hK13'.out _ _ ?_
  clear hK13'
  refine wp_seq_k fun K14 hK14 => ?_
  have hK14' : Aside (∀ (a : Act) (w : World), _ → K14 a w) := hK14
  clear hK14
  go_wp2
  refine hK14'.out _ _ ?_
  clear hK14'
  refine wp_seq_k fun K15 hK15 => ?_
  have hK15' : Aside (∀ (a : Act) (w : World), _ → K15 a w) := hK15
  clear hK15
  go_wp2
  refine hK15'.out _ _ ?_
  clear hK15'
  refine wp_seq_k fun K16 hK16 => ?_
  have hK16' : Aside (∀ (a : Act) (w : World), _ → K16 a w) := hK16
  clear hK16
  go_wp2
  refine hK16'.out _ _ ?_
  clear hK16'
  refine wp_seq_k fun K17 hK17 => ?_
  have hK17' : Aside (∀ (a : Act) (w : World), _ → K17 a w) := hK17
  clear hK17
  go_wp2
  refine hK17'.out _ _ ?_
  clear hK17'
  refine wp_seq_k fun K18 hK18 => ?_
  have hK18' : Aside (∀ (a : Act) (w : World), _ → K18 a w) := hK18
  clear hK18
  go_wp2
  refine hK18'.out _ _ ?_
  clear hK18'
  refine wp_seq_k fun K19 hK19 => ?_
  have hK19' : Aside (∀ (a : Act) (w : World), _ → K19 a w) := hK19
  clear hK19
  go_wp2
  refine hK19'.out _ _ ?_
  clear hK19'
  refine wp_seq_k fun K20 hK20 => ?_
  have hK20' : Aside (∀ (a : Act) (w : World), _ → K20 a w) := hK20
  clear hK20
  go_wp2
  refine hK20'.out _ _ ?_
  clear hK20'
  refine wp_seq_k fun K21 hK21 => ?_
  have hK21' : Aside (∀ (a : Act) (w : World), _ → K21 a w) := hK21
  clear hK21
  go_wp2
  refine hK21'.out _ _ ?_
  clear hK21'
  refine wp_seq_k fun K22 hK22 => ?_
  have hK22' : Aside (∀ (a : Act) (w : World), _ → K22 a w) := hK22
  clear hK22
  go_wp2
  refine hK22'.out _ _ ?_
  clear hK22'
  refine wp_seq_k fun K23 hK23 => ?_
  have hK23' : Aside (∀ (a : Act) (w : World), _ → K23 a w) := hK23
  clear hK23
  go_wp2
  obtain ⟨W8, hW8⟩ : ∃ W8, ((((((((w.alloc (.cells #[.int .u64 pm, .int .u64 0] 26)).alloc (.cells #[.int .u64 cm, .int .u64 0] 26)).alloc (.cells #[.int .u64 jm, .int .u64 0] 26)).alloc (.cells #[.int .u64 tn, .int .i64 tm] 28)).alloc (.cells #[.int .u64 (IntKind.u64.wrap (tn + 1)), .int .i64 tm] 28)).alloc (.cells #[.int .u64 (IntKind.u64.wrap (tn + 1)), .int .i64 tm, .int .u64 tn, .int .i64 tm, .int .u64 cm, .int .u64 0, .int .u64 jm, .int .u64 0, .slice none 0 0, .slice none 0 0] 32)).alloc (.cells #[.int .u64 0, .int .i64 0, .int .u64 0, .int .i64 0, .int .u64 0, .int .u64 0, .int .u64 0, .int .u64 0, .slice none 0 0, .slice none 0 0] 32)).alloc (.cells #[.slice none 0 0, .int .i64 0] 36)) = W8 := ⟨_, rfl⟩
  rw [hW8, show ((self : Int) % (n : Int)) = ((self % n : Nat) : Int) by simp]
  have hb8 : Below w.heap.size w W8 := by
    rw [← hW8]
    exact ((((((((Below.refl _ _).alloc (by simp; try omega) _).alloc (by simp; try omega) _).alloc (by simp; try omega) _).alloc (by simp; try omega) _).alloc (by simp; try omega) _).alloc (by simp; try omega) _).alloc (by simp; try omega) _).alloc (by simp; try omega) _
  have hs8 : W8.heap.size = w.heap.size + 8 := by rw [← hW8]; simp
  have x0 : W8.heap[w.heap.size]? = some (.cells #[.int .u64 pm, .int .u64 0] 26 (0, 0)) := by rw [← hW8, alloc_at, if_neg (by simp only [World.size_alloc]; omega), alloc_at, if_neg (by simp only [World.size_alloc]; omega), alloc_at, if_neg (by simp only [World.size_alloc]; omega), alloc_at, if_neg (by simp only [World.size_alloc]; omega), alloc_at, if_neg (by simp only [World.size_alloc]; omega), alloc_at, if_neg (by simp only [World.size_alloc]; omega), alloc_at, if_neg (by simp only [World.size_alloc]; omega), alloc_at, if_pos (by first | rfl | simp only [World.size_alloc])]
  have x1 : W8.heap[w.heap.size + 1]? = some (.cells #[.int .u64 cm, .int .u64 0] 26 (0, 0)) := by rw [← hW8, alloc_at, if_neg (by simp only [World.size_alloc]; omega), alloc_at, if_neg (by simp only [World.size_alloc]; omega), alloc_at, if_neg (by simp only [World.size_alloc]; omega), alloc_at, if_neg (by simp only [World.size_alloc]; omega), alloc_at, if_neg (by simp only [World.size_alloc]; omega), alloc_at, if_neg (by simp only [World.size_alloc]; omega), alloc_at, if_pos (by first | rfl | simp only [World.size_alloc])]
  have x2 : W8.heap[w.heap.size + 1 + 1]? = some (.cells #[.int .u64 jm, .int .u64 0] 26 (0, 0)) := by rw [← hW8, alloc_at, if_neg (by simp only [World.size_alloc]; omega), alloc_at, if_neg (by simp only [World.size_alloc]; omega), alloc_at, if_neg (by simp only [World.size_alloc]; omega), alloc_at, if_neg (by simp only [World.size_alloc]; omega), alloc_at, if_neg (by simp only [World.size_alloc]; omega), alloc_at, if_pos (by first | rfl | simp only [World.size_alloc])]
  have x3 : W8.heap[w.heap.size + 1 + 1 + 1]? = some (.cells #[.int .u64 tn, .int .i64 tm] 28 (0, 0)) := by rw [← hW8, alloc_at, if_neg (by simp only [World.size_alloc]; omega), alloc_at, if_neg (by simp only [World.size_alloc]; omega), alloc_at, if_neg (by simp only [World.size_alloc]; omega), alloc_at, if_neg (by simp only [World.size_alloc]; omega), alloc_at, if_pos (by first | rfl | simp only [World.size_alloc])]
  have x4 : W8.heap[w.heap.size + 1 + 1 + 1 + 1]? = some (.cells #[.int .u64 (IntKind.u64.wrap (tn + 1)), .int .i64 tm] 28 (0, 0)) := by rw [← hW8, alloc_at, if_neg (by simp only [World.size_alloc]; omega), alloc_at, if_neg (by simp only [World.size_alloc]; omega), alloc_at, if_neg (by simp only [World.size_alloc]; omega), alloc_at, if_pos (by first | rfl | simp only [World.size_alloc])]
  have x5 : W8.heap[w.heap.size + 1 + 1 + 1 + 1 + 1]? = some (.cells #[.int .u64 (IntKind.u64.wrap (tn + 1)), .int .i64 tm, .int .u64 tn, .int .i64 tm, .int .u64 cm, .int .u64 0, .int .u64 jm, .int .u64 0, .slice none 0 0, .slice none 0 0] 32 (0, 0)) := by rw [← hW8, alloc_at, if_neg (by simp only [World.size_alloc]; omega), alloc_at, if_neg (by simp only [World.size_alloc]; omega), alloc_at, if_pos (by first | rfl | simp only [World.size_alloc])]
  have x6 : W8.heap[w.heap.size + 1 + 1 + 1 + 1 + 1 + 1]? = some (.cells #[.int .u64 0, .int .i64 0, .int .u64 0, .int .i64 0, .int .u64 0, .int .u64 0, .int .u64 0, .int .u64 0, .slice none 0 0, .slice none 0 0] 32 (0, 0)) := by rw [← hW8, alloc_at, if_neg (by simp only [World.size_alloc]; omega), alloc_at, if_pos (by first | rfl | simp only [World.size_alloc])]
  have x7 : W8.heap[w.heap.size + 1 + 1 + 1 + 1 + 1 + 1 + 1]? = some (.cells #[.slice none 0 0, .int .i64 0] 36 (0, 0)) := by rw [← hW8, alloc_at, if_pos (by first | rfl | simp only [World.size_alloc])]
  clear hW8
  obtain ⟨z1, z2, z3, z4⟩ := hB.out
  have hsn : self % n < n := Nat.mod_lt _ hn0
  exact hK23'.out _ _ (law_A3 N n nb (self % n) pm cm jm (w.heap.size + 1 + 1 + 1) (w.heap.size + 1 + 1 + 1 + 1) (w.heap.size) L pc (w.heap.size + 1) (w.heap.size + 1 + 1 + 1 + 1 + 1) (w.heap.size + 1 + 1 + 1 + 1 + 1 + 1) (w.heap.size + 1 + 1 + 1 + 1 + 1 + 1 + 1) tn tm (IntKind.u64.wrap (tn + 1)) tm nm ps pa w0 W8 hn hsn hpm hcm z4 hL hN0 (by omega) (by omega) (by omega) (by omega) (by omega) (by omega) (by omega) (by omega) (by omega) (by omega) (by omega) (by omega) (by omega)
    (tab_below z1 hb8 (by omega)) x7 (Joins.cell_of_block x5 2) (Joins.cell_of_block x5 3) (Joins.cell_of_block x5 4) (Joins.cell_of_block x5 5) (Joins.cell_of_block x5 6) (Joins.cell_of_block x5 7)
    (fun k hk => (hb8.cell (p := ⟨nb, k, none⟩) hnb).trans (z2 k hk)) (Joins.cell_of_block x3 0) (Joins.cell_of_block x3 1) (Joins.cell_of_block x1 0) (Joins.cell_of_block x1 1) (Joins.cell_of_block x0 0) (Joins.cell_of_block x0 1) (Joins.cell_of_block x4 0) (Joins.cell_of_block x4 1)
    (fun j hj => by obtain ⟨bb, oo, e1, e2, e3⟩ := z3 j hj; exact ⟨bb, oo, e1, e2, (hb8.cell (p := ⟨bb, oo + j, none⟩) (by show bb < w.heap.size; omega)).trans e3⟩) (Hfin.out.trans (hb8.mono hNw)) _ _ _ _ _ _ _ _ _ _ _ _ _ _ _ _ _ _ _ _ _ _ _ _ _ _ _ _ _ _ _ _ _ _ _ _ _ _ _ _ _ _ _ _ _ _ _ _ _ _ _ _ _ _ _ _ _ _ _ _ _ _ _ _ _ _ _ _ _ _ _ _ _ _ _ _ _ _ _ _ _ _ _ _ _ _ _ _ _ _ _ _ _ _ _ _ _ _ _ _ _ _ _ _ _ _ _ _ _ _ _ _ _ _ _ _ _ _ _ _ _ _ _ _ _ _ _ _ _ _ _ _ _ _ _ _ _ _ _ _ _ _ _ _ _ _ _ _ _ _ _ _ _ _ _ _ _ _ _ _ _ _ _ _ _ _ _ _ _ _ _ _ _ _ _ _ _ _ _ _ _ _ _ _ _ _ _ _ _ _ _ _ _ _ _ _ _ _ _ _ _ _ _ _ _ _ _ _ _ _ _ _ _ _ _ _ _ _ _ _ _ _ _ _ _ _ _ _ _ _ _ _ _ _ _ _ _ _ _ _ _ _ _ _ _ _ _ _ _ _ _ _ _ _ _ _ _ _ _ _ _ _ _ _ _ _ _ _ _ _ _ _ _ _ _ _ _ _ _ _ _ _ _ _ _ _ _ _ _ _ _ _ _ _ _ _ _ _ _ _ _)
end Go.Proofs.YbulkceouDoor
