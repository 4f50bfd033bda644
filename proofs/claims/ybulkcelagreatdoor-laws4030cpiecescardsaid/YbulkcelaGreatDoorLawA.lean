/-
  LawS4030CPieces: the contracts are laid (seat b4030aZD).
-/
import Derived.Test.YbulkcelaGreatDoorLawS
namespace Go.Proofs.YbulkcelaGreatDoor
open Go.RowKit Go.MapKept Go.Lib Go.Shelf Go.Maps Go.Sort

noncomputable def lawA : Code := (Ybaz.f3.body.bind (fromR 3)).getD .skip
noncomputable def lawB : Code := (Ybaz.f3.body.bind (fromR 13)).getD .skip

theorem Ybaz.info42 : (Ybaz.prog.info? 42).map (fun i => (i.zero, i.size, i.bytes)) = some (some (.agg #[.string ⟨#[]⟩, .int .i64 0, .map none, .int .u64 0, .int .i64 0, .pointer none, .int .u64 0, .int .i64 0, .pointer none]), 9, 80) := by kernel_rfl

theorem make33 (n : Nat) (hn : n ≤ 1000) : ∃ zc : Array Value, zc.size = n * 9 ∧ (∀ j, zc[0]? ≠ some (.string (valS j))) ∧ ∀ w : World, (Instr.makeSlice 33 (.int .i64 n) (.int .i64 n)).run Ybaz.prog w = .ok (.slice (some ⟨w.heap.size, 0, none⟩) n n) (w.alloc (.cells zc 42)) := by
  obtain ⟨i0, hi, hz0, hz1, hz2⟩ := info_parts Ybaz.info42
  refine ⟨madeCells (Value.agg #[.string ⟨#[]⟩, .int .i64 0, .map none, .int .u64 0, .int .i64 0, .pointer none, .int .u64 0, .int .i64 0, .pointer none]).cells (n * 9), by rw [size_madeCells], fun j => ?_, fun w => ?_⟩
  · unfold madeCells
    intro h
    by_cases hn0 : n = 0
    · subst hn0; simp at h
    · simp [Value.cells, show 0 < n by omega] at h
      exact valS_e j h
  · have hmk := run_make (P := Ybaz.prog) w 33 42 i0 _ Ybaz.underlying33 hi hz0 .i64 .i64 n n (by omega) (Int.le_refl _) (by rw [hz2]; omega) (by omega)
    rw [hz1] at hmk
    simp only [Int.toNat_natCast] at hmk
    exact hmk

theorem L1.start {len : Nat} {V : Nat → Nat} {S E : Nat → Int} (w w1 : World) (zc : Array Value) (hl : Lays w w1) (hz : zc.size = len * 9) (h0 : ∀ j, zc[0]? ≠ some (.string (valS j))) : L1 w w1.heap.size (w1.heap.size + 1) (w1.heap.size + 1 + 1) len V S E 0 (((w1.alloc (.cells #[.int .u64 0, .int .i64 100000, .pointer none] 29)).alloc (.cells #[.bool false, .bool false, .bool false] 32)).alloc (.cells zc 42)) := by
  have hb := hl.below
  have hs := hb.size
  refine ⟨((((hb.alloc hs _).alloc (by simp; omega) _).alloc (by simp; omega) _)), ⟨hs, by omega, by omega⟩, ?_, ⟨#[.bool false, .bool false, .bool false], ?_, rfl, fun j hj => ?_⟩, ⟨zc, ?_, hz, h0⟩, fun j hj => absurd hj (Nat.not_lt_zero _)⟩
  · rw [alloc_at, if_neg (by simp <;> omega), alloc_at, if_neg (by simp <;> omega), alloc_at, if_pos rfl]
  · rw [alloc_at, if_neg (by simp <;> omega), alloc_at, if_pos (by simp)]
  · rcases (show j = 0 ∨ j = 1 ∨ j = 2 by omega) with rfl | rfl | rfl <;> rfl
  · rw [alloc_at, if_pos (by simp)]

set_option linter.unusedSimpArgs false in
set_option maxRecDepth 100000 in
set_option maxHeartbeats 4000000 in
theorem law_A (a0 a1 : Option Addr) (n cap0 len cap1 : Nat) (f d sp : Int) (M : Nat → Nat) (s e : Nat → Int) (w : World) (hlen : len ≤ 300) (hArg : ArgC w w.heap.size a1 len M s e) (Q : Exit → Act → World → Prop) (hrest : ∀ (tb ab N : Nat) (wr : World), L1 w tb ab N len (fun i => M i % 3) (fun i => 100000 + s i) (fun i => 100000 + e i) len wr → ∀ (c5 c6 c7 c8 c9 c10 c14 c15 c16 c17 c18 c19 c20 c21 c22 c23 c24 c25 c26 c27 c28 c29 c30 c31 c32 c33 c34 c35 c36 c37 c38 c39 c40 c41 c42 c43 c44 c45 c46 c47 c48 c49 c50 c51 c52 c53 c54 c55 c56 c57 c58 c59 c60 c61 c62 c63 c64 c65 c66 c67 c68 c69 c70 c71 c72 c73 c74 c75 c76 c77 c78 c79 c80 c81 c82 c83 c84 c85 c86 c87 c88 c89 c90 c91 c92 c93 c94 c95 c96 c97 c98 c99 c100 c101 c102 c103 c104 c105 c106 c107 c108 c109 c110 c111 c112 c113 c114 c115 c116 c117 c118 c119 c120 c121 c122 c123 c124 c125 c126 c127 c128 c129 c130 c131 c132 c133 c134 c135 c136 c137 c138 c139 c140 c141 c142 c143 c144 c145 c146 c147 c148 c149 c150 c151 c152 c153 c154 c155 c156 c157 c158 c159 c160 c161 c162 c163 c164 c165 c166 c167 c168 c169 c170 c171 c172 c173 c174 c175 c176 c177 c178 c179 c180 c181 c182 c183 c184 c185 c186 c187 c188 c189 c190 c191 c192 c193 c194 c195 c196 c197 c198 c199 c200 c201 c202 c203 c204 c205 c206 c207 c208 c209 c210 c211 c212 c213 c214 c215 c216 c217 c218 c219 c220 c221 c222 c223 c224 c225 c226 c227 c228 c229 c230 c231 c232 c233 c234 c235 c236 c237 c238 c239 c240 c241 c242 c243 c244 c245 c246 c247 c248 c249 c250 c251 c252 c253 c254 c255 c256 c257 c258 c259 c260 c261 c262 c263 c264 c265 c266 c267 c268 c269 c270 c271 c272 c273 c274 c275 c276 c277 c278 c279 c280 c281 c282 c283 c284 c285 c286 c287 c288 c289 c290 c291 c292 c293 c294 c295 c296 c297 c298 c299 c300 c301 c302 c303 c304 c305 c306 c307 c308 c309 c310 c311 c312 c313 c314 c315 c316 c317 c318 c319 c320 c321 c322 c323 c324 c325 c326 : Value), lawB.wp Ybaz.prog Q ⟨#[.slice a0 n cap0, .slice a1 len cap1, .int .i16 f, .int .u16 d, .int .u16 sp, c5, c6, c7, c8, c9, c10, .pointer (some ⟨tb, 0, none⟩), .pointer (some ⟨ab, 0, none⟩), .slice (some ⟨N, 0, none⟩) len len, c14, c15, c16, c17, c18, c19, c20, c21, c22, c23, c24, c25, c26, c27, c28, c29, c30, c31, c32, c33, c34, c35, c36, c37, c38, c39, c40, c41, c42, c43, c44, c45, c46, c47, c48, c49, c50, c51, c52, c53, c54, c55, c56, c57, c58, c59, c60, c61, c62, c63, c64, c65, c66, c67, c68, c69, c70, c71, c72, c73, c74, c75, c76, c77, c78, c79, c80, c81, c82, c83, c84, c85, c86, c87, c88, c89, c90, c91, c92, c93, c94, c95, c96, c97, c98, c99, c100, c101, c102, c103, c104, c105, c106, c107, c108, c109, c110, c111, c112, c113, c114, c115, c116, c117, c118, c119, c120, c121, c122, c123, c124, c125, c126, c127, c128, c129, c130, c131, c132, c133, c134, c135, c136, c137, c138, c139, c140, c141, c142, c143, c144, c145, c146, c147, c148, c149, c150, c151, c152, c153, c154, c155, c156, c157, c158, c159, c160, c161, c162, c163, c164, c165, c166, c167, c168, c169, c170, c171, c172, c173, c174, c175, c176, c177, c178, c179, c180, c181, c182, c183, c184, c185, c186, c187, c188, c189, c190, c191, c192, c193, c194, c195, c196, c197, c198, c199, c200, c201, c202, c203, c204, c205, c206, c207, c208, c209, c210, c211, c212, c213, c214, c215, c216, c217, c218, c219, c220, c221, c222, c223, c224, c225, c226, c227, c228, c229, c230, c231, c232, c233, c234, c235, c236, c237, c238, c239, c240, c241, c242, c243, c244, c245, c246, c247, c248, c249, c250, c251, c252, c253, c254, c255, c256, c257, c258, c259, c260, c261, c262, c263, c264, c265, c266, c267, c268, c269, c270, c271, c272, c273, c274, c275, c276, c277, c278, c279, c280, c281, c282, c283, c284, c285, c286, c287, c288, c289, c290, c291, c292, c293, c294, c295, c296, c297, c298, c299, c300, c301, c302, c303, c304, c305, c306, c307, c308, c309, c310, c311, c312, c313, c314, c315, c316, c317, c318, c319, c320, c321, c322, c323, c324, c325, c326], []⟩ wr) (c5 c6 c7 c8 c9 c10 c11 c12 c13 c14 c15 c16 c17 c18 c19 c20 c21 c22 c23 c24 c25 c26 c27 c28 c29 c30 c31 c32 c33 c34 c35 c36 c37 c38 c39 c40 c41 c42 c43 c44 c45 c46 c47 c48 c49 c50 c51 c52 c53 c54 c55 c56 c57 c58 c59 c60 c61 c62 c63 c64 c65 c66 c67 c68 c69 c70 c71 c72 c73 c74 c75 c76 c77 c78 c79 c80 c81 c82 c83 c84 c85 c86 c87 c88 c89 c90 c91 c92 c93 c94 c95 c96 c97 c98 c99 c100 c101 c102 c103 c104 c105 c106 c107 c108 c109 c110 c111 c112 c113 c114 c115 c116 c117 c118 c119 c120 c121 c122 c123 c124 c125 c126 c127 c128 c129 c130 c131 c132 c133 c134 c135 c136 c137 c138 c139 c140 c141 c142 c143 c144 c145 c146 c147 c148 c149 c150 c151 c152 c153 c154 c155 c156 c157 c158 c159 c160 c161 c162 c163 c164 c165 c166 c167 c168 c169 c170 c171 c172 c173 c174 c175 c176 c177 c178 c179 c180 c181 c182 c183 c184 c185 c186 c187 c188 c189 c190 c191 c192 c193 c194 c195 c196 c197 c198 c199 c200 c201 c202 c203 c204 c205 c206 c207 c208 c209 c210 c211 c212 c213 c214 c215 c216 c217 c218 c219 c220 c221 c222 c223 c224 c225 c226 c227 c228 c229 c230 c231 c232 c233 c234 c235 c236 c237 c238 c239 c240 c241 c242 c243 c244 c245 c246 c247 c248 c249 c250 c251 c252 c253 c254 c255 c256 c257 c258 c259 c260 c261 c262 c263 c264 c265 c266 c267 c268 c269 c270 c271 c272 c273 c274 c275 c276 c277 c278 c279 c280 c281 c282 c283 c284 c285 c286 c287 c288 c289 c290 c291 c292 c293 c294 c295 c296 c297 c298 c299 c300 c301 c302 c303 c304 c305 c306 c307 c308 c309 c310 c311 c312 c313 c314 c315 c316 c317 c318 c319 c320 c321 c322 c323 c324 c325 c326 : Value) :
    lawA.wp Ybaz.prog Q ⟨#[.slice a0 n cap0, .slice a1 len cap1, .int .i16 f, .int .u16 d, .int .u16 sp, c5, c6, c7, c8, c9, c10, c11, c12, c13, c14, c15, c16, c17, c18, c19, c20, c21, c22, c23, c24, c25, c26, c27, c28, c29, c30, c31, c32, c33, c34, c35, c36, c37, c38, c39, c40, c41, c42, c43, c44, c45, c46, c47, c48, c49, c50, c51, c52, c53, c54, c55, c56, c57, c58, c59, c60, c61, c62, c63, c64, c65, c66, c67, c68, c69, c70, c71, c72, c73, c74, c75, c76, c77, c78, c79, c80, c81, c82, c83, c84, c85, c86, c87, c88, c89, c90, c91, c92, c93, c94, c95, c96, c97, c98, c99, c100, c101, c102, c103, c104, c105, c106, c107, c108, c109, c110, c111, c112, c113, c114, c115, c116, c117, c118, c119, c120, c121, c122, c123, c124, c125, c126, c127, c128, c129, c130, c131, c132, c133, c134, c135, c136, c137, c138, c139, c140, c141, c142, c143, c144, c145, c146, c147, c148, c149, c150, c151, c152, c153, c154, c155, c156, c157, c158, c159, c160, c161, c162, c163, c164, c165, c166, c167, c168, c169, c170, c171, c172, c173, c174, c175, c176, c177, c178, c179, c180, c181, c182, c183, c184, c185, c186, c187, c188, c189, c190, c191, c192, c193, c194, c195, c196, c197, c198, c199, c200, c201, c202, c203, c204, c205, c206, c207, c208, c209, c210, c211, c212, c213, c214, c215, c216, c217, c218, c219, c220, c221, c222, c223, c224, c225, c226, c227, c228, c229, c230, c231, c232, c233, c234, c235, c236, c237, c238, c239, c240, c241, c242, c243, c244, c245, c246, c247, c248, c249, c250, c251, c252, c253, c254, c255, c256, c257, c258, c259, c260, c261, c262, c263, c264, c265, c266, c267, c268, c269, c270, c271, c272, c273, c274, c275, c276, c277, c278, c279, c280, c281, c282, c283, c284, c285, c286, c287, c288, c289, c290, c291, c292, c293, c294, c295, c296, c297, c298, c299, c300, c301, c302, c303, c304, c305, c306, c307, c308, c309, c310, c311, c312, c313, c314, c315, c316, c317, c318, c319, c320, c321, c322, c323, c324, c325, c326], []⟩ w := by
  have hAR : Aside (∀ (tb ab N : Nat) (wr : World), L1 w tb ab N len (fun i => M i % 3) (fun i => 100000 + s i) (fun i => 100000 + e i) len wr → ∀ (c5 c6 c7 c8 c9 c10 c14 c15 c16 c17 c18 c19 c20 c21 c22 c23 c24 c25 c26 c27 c28 c29 c30 c31 c32 c33 c34 c35 c36 c37 c38 c39 c40 c41 c42 c43 c44 c45 c46 c47 c48 c49 c50 c51 c52 c53 c54 c55 c56 c57 c58 c59 c60 c61 c62 c63 c64 c65 c66 c67 c68 c69 c70 c71 c72 c73 c74 c75 c76 c77 c78 c79 c80 c81 c82 c83 c84 c85 c86 c87 c88 c89 c90 c91 c92 c93 c94 c95 c96 c97 c98 c99 c100 c101 c102 c103 c104 c105 c106 c107 c108 c109 c110 c111 c112 c113 c114 c115 c116 c117 c118 c119 c120 c121 c122 c123 c124 c125 c126 c127 c128 c129 c130 c131 c132 c133 c134 c135 c136 c137 c138 c139 c140 c141 c142 c143 c144 c145 c146 c147 c148 c149 c150 c151 c152 c153 c154 c155 c156 c157 c158 c159 c160 c161 c162 c163 c164 c165 c166 c167 c168 c169 c170 c171 c172 c173 c174 c175 c176 c177 c178 c179 c180 c181 c182 c183 c184 c185 c186 c187 c188 c189 c190 c191 c192 c193 c194 c195 c196 c197 c198 c199 c200 c201 c202 c203 c204 c205 c206 c207 c208 c209 c210 c211 c212 c213 c214 c215 c216 c217 c218 c219 c220 c221 c222 c223 c224 c225 c226 c227 c228 c229 c230 c231 c232 c233 c234 c235 c236 c237 c238 c239 c240 c241 c242 c243 c244 c245 c246 c247 c248 c249 c250 c251 c252 c253 c254 c255 c256 c257 c258 c259 c260 c261 c262 c263 c264 c265 c266 c267 c268 c269 c270 c271 c272 c273 c274 c275 c276 c277 c278 c279 c280 c281 c282 c283 c284 c285 c286 c287 c288 c289 c290 c291 c292 c293 c294 c295 c296 c297 c298 c299 c300 c301 c302 c303 c304 c305 c306 c307 c308 c309 c310 c311 c312 c313 c314 c315 c316 c317 c318 c319 c320 c321 c322 c323 c324 c325 c326 : Value), lawB.wp Ybaz.prog Q ⟨#[.slice a0 n cap0, .slice a1 len cap1, .int .i16 f, .int .u16 d, .int .u16 sp, c5, c6, c7, c8, c9, c10, .pointer (some ⟨tb, 0, none⟩), .pointer (some ⟨ab, 0, none⟩), .slice (some ⟨N, 0, none⟩) len len, c14, c15, c16, c17, c18, c19, c20, c21, c22, c23, c24, c25, c26, c27, c28, c29, c30, c31, c32, c33, c34, c35, c36, c37, c38, c39, c40, c41, c42, c43, c44, c45, c46, c47, c48, c49, c50, c51, c52, c53, c54, c55, c56, c57, c58, c59, c60, c61, c62, c63, c64, c65, c66, c67, c68, c69, c70, c71, c72, c73, c74, c75, c76, c77, c78, c79, c80, c81, c82, c83, c84, c85, c86, c87, c88, c89, c90, c91, c92, c93, c94, c95, c96, c97, c98, c99, c100, c101, c102, c103, c104, c105, c106, c107, c108, c109, c110, c111, c112, c113, c114, c115, c116, c117, c118, c119, c120, c121, c122, c123, c124, c125, c126, c127, c128, c129, c130, c131, c132, c133, c134, c135, c136, c137, c138, c139, c140, c141, c142, c143, c144, c145, c146, c147, c148, c149, c150, c151, c152, c153, c154, c155, c156, c157, c158, c159, c160, c161, c162, c163, c164, c165, c166, c167, c168, c169, c170, c171, c172, c173, c174, c175, c176, c177, c178, c179, c180, c181, c182, c183, c184, c185, c186, c187, c188, c189, c190, c191, c192, c193, c194, c195, c196, c197, c198, c199, c200, c201, c202, c203, c204, c205, c206, c207, c208, c209, c210, c211, c212, c213, c214, c215, c216, c217, c218, c219, c220, c221, c222, c223, c224, c225, c226, c227, c228, c229, c230, c231, c232, c233, c234, c235, c236, c237, c238, c239, c240, c241, c242, c243, c244, c245, c246, c247, c248, c249, c250, c251, c252, c253, c254, c255, c256, c257, c258, c259, c260, c261, c262, c263, c264, c265, c266, c267, c268, c269, c270, c271, c272, c273, c274, c275, c276, c277, c278, c279, c280, c281, c282, c283, c284, c285, c286, c287, c288, c289, c290, c291, c292, c293, c294, c295, c296, c297, c298, c299, c300, c301, c302, c303, c304, c305, c306, c307, c308, c309, c310, c311, c312, c313, c314, c315, c316, c317, c318, c319, c320, c321, c322, c323, c324, c325, c326], []⟩ wr) := hrest
  have hA : Aside (ArgC w w.heap.size a1 len M s e) := hArg
  clear hrest hArg
  have hadd : Aside (Calls Ybaz.prog 4 #[tv 0, .int .i64 100000000000000] w fun x w' => x = .returned (.agg #[.int .u64 0, .int .i64 100000, .pointer none]) ∧ Lays w w') := by
    show Calls _ _ _ _ _
    have h := add4 0 100000 (by omega) (by omega) (by omega) (by omega) w
    simpa using h
  obtain ⟨zc, hzs, hz0, hmk⟩ := make33 len (by omega)
  conv => arg 2; whnf
  go_wp2_with fail
  refine hadd.out.mono ?_
  rintro e w1 ⟨rfl, hl1⟩
  dsimp only
  go_wp2
  rename_i K1 hK1
  have hK1' : Aside (∀ (a : Act) (w : World), _ → K1 a w) := hK1
  clear hK1 hmk hadd
  have hst := L1.start (len := len) (V := fun i => M i % 3) (S := fun i => 100000 + s i) (E := fun i => 100000 + e i) w w1 zc hl1 hzs hz0
  have hAst : Aside (L1 w w1.heap.size (w1.heap.size + 1) (w1.heap.size + 1 + 1) len (fun i => M i % 3) (fun i => 100000 + s i) (fun i => 100000 + e i) 0 (((w1.alloc (.cells #[.int .u64 0, .int .i64 100000, .pointer none] 29)).alloc (.cells #[.bool false, .bool false, .bool false] 32)).alloc (.cells zc 42))) := hst
  clear hst hzs hz0
  obtain ⟨tb, htb⟩ : ∃ tb, w1.heap.size = tb := ⟨_, rfl⟩
  rw [htb] at hAst
  rw [htb]
  clear htb
  go_loopg [59] (len + 1) (fun q v59 wx => ∃ i : Nat, v59 = .int .i64 i ∧ i ≤ len ∧ len - i < q ∧ L1 w tb (tb + 1) (tb + 1 + 1) len (fun i => M i % 3) (fun i => 100000 + s i) (fun i => 100000 + e i) i wx)
  case atStart => exact ⟨0, rfl, Nat.zero_le _, by omega, hAst.out⟩
  case round =>
    obtain ⟨i, rfl, hiL, hq, hL⟩ := hrel
    by_cases hlt : i < len
    · obtain ⟨b, off, rfl, hbB, p0, p1, p2, m255, hsb, heb⟩ := hA.out i hlt
      have o0 := (hL.below.cell (p := ⟨b, off + i * 3, none⟩) hbB).trans p0
      have o1 := (hL.below.cell (p := ⟨b, off + i * 3 + 1, none⟩) hbB).trans p1
      have o2 := (hL.below.cell (p := ⟨b, off + i * 3 + 2, none⟩) hbB).trans p2
      have hlt' : (i : Int) < (len : Int) := by omega
      obtain ⟨m, hm⟩ : ∃ m, M i = m := ⟨_, rfl⟩
      obtain ⟨si, hsi⟩ : ∃ si, s i = si := ⟨_, rfl⟩
      obtain ⟨ei, hei⟩ : ∃ ei, e i = ei := ⟨_, rfl⟩
      obtain ⟨v, hv⟩ : ∃ v, m % 3 = v := ⟨_, rfl⟩
      rw [hm] at o0 m255
      rw [hsi] at o1 hsb
      rw [hei] at o2 heb
      have hv3 : v < 3 := by omega
      have htm : (m : Int).tmod 3 = (v : Int) := by rw [← hv]; exact (Int.ofNat_tmod m 3).symm
      have hwm : IntKind.i64.wrap (m : Int) = (m : Int) := (IntWalk.i64_left _).trans (by unfold wrap64; omega)
      have hvi : (v : Int) < 3 := by omega
      have hsz := hL.below.size
      have hNl := hL.ltN
      have hab : tb + 1 < wr.heap.size := by omega
      obtain ⟨cur, g1, g2, g3⟩ := hL.acc
      have x0 : wr.cell? ⟨tb + 1, v, none⟩ = some (.bool (accB (fun i => M i % 3) i v)) := (Joins.cell_of_block g1 v).trans (g3 v hv3)
      have x1 : wr.frozen? ⟨tb + 1, v, none⟩ = false := Joins.unfrozen_of_block g1 v
      obtain ⟨ob, hob⟩ : ∃ ob, accB (fun i => M i % 3) i v = ob := ⟨_, rfl⟩
      rw [hob] at x0
      have hbr : b < wr.heap.size := by omega
      have hAL : Aside (L1 w tb (tb + 1) (tb + 1 + 1) len (fun i => M i % 3) (fun i => 100000 + s i) (fun i => 100000 + e i) i wr ∧ M i = m ∧ s i = si ∧ e i = ei ∧ m % 3 = v) := ⟨hL, hm, hsi, hei, hv⟩
      clear hL p0 p1 p2 g1 g2 g3 hm hsi hei hv hob
      go_wp2
      obtain ⟨hL, hm, hsi, hei, hv⟩ := hAL.out
      clear o0 o1 o2 x0 x1 htm hwm
      obtain ⟨wx, hwx⟩ : ∃ wx, (wr.setCell ⟨tb + 1, v, none⟩ (.bool true)).alloc (.cells #[.int .u8 (m : Nat), .int .i16 si, .int .i16 ei] 35) = wx := ⟨_, rfl⟩
      have hlo := hL.lo
      have hxs : wx.heap.size = wr.heap.size + 1 := by rw [← hwx]; simp [World.setCell]
      have hws : (wr.setCell ⟨tb + 1, v, none⟩ (.bool true)).heap.size = wr.heap.size := by simp [World.setCell]
      have hxk : ∀ k, k < wr.heap.size → k ≠ tb + 1 → wx.heap[k]? = wr.heap[k]? := fun k k1 k2 => by
        rw [← hwx, alloc_at, if_neg (by omega)]
        exact Below.heap_setCell _ _ _ _ k2
      have hxb : Below w.heap.size w wx := by rw [← hwx]; exact (hL.below.setCell (p := ⟨tb + 1, v, none⟩) (by show w.heap.size ≤ tb + 1; omega) _).alloc (by omega) _
      have hVi : M i % 3 = v := by rw [hm, hv]
      have hxa : ∃ cur : Array Value, wx.heap[tb + 1]? = some (.cells cur 32 (0, 0)) ∧ cur.size = 3 ∧ ∀ j, j < 3 → cur[j]? = some (.bool (accB (fun i => M i % 3) (i + 1) j)) := by
        obtain ⟨cur, q1, q2⟩ := hL.mark (by rw [hVi]; exact hv3)
        rw [hVi] at q1
        exact ⟨cur, by rw [← hwx, alloc_at, if_neg (by omega)]; exact q1, q2⟩
      have hcb : wx.heap[wr.heap.size]? = some (.cells #[.int .u8 (m : Nat), .int .i16 si, .int .i16 ei] 35 (0, 0)) := by rw [← hwx, alloc_at, if_pos hws.symm]
      have hbs : wx.heap[tb]? = some (.cells #[.int .u64 0, .int .i64 100000, .pointer none] 29 (0, 0)) := (hxk tb (by omega) (by omega)).trans hL.base
      have hG : GoodN (tb + 1 + 1) i wx := by
        obtain ⟨cs, b1, b2, _⟩ := hL.blk
        exact ⟨cs, (hxk _ hNl (by omega)).trans b1, by omega⟩
      have hHC : HeldC (tb + 1 + 1) i wx tb wr.heap.size si ei wx := ⟨⟨⟨Nat.le_refl _, fun _ _ _ => rfl⟩, Joins.cell_of_block hbs 0, Joins.cell_of_block hbs 1, Joins.cell_of_block hbs 2, Joins.cell_of_block hcb 1, Joins.cell_of_block hcb 2⟩, hG⟩
      rw [hwx]
      have hA2 : Aside (L1 w tb (tb + 1) (tb + 1 + 1) len (fun i => M i % 3) (fun i => 100000 + s i) (fun i => 100000 + e i) i wr ∧ (∀ k, k < wr.heap.size → k ≠ tb + 1 → wx.heap[k]? = wr.heap[k]?) ∧ Below w.heap.size w wx ∧ ∃ cur : Array Value, wx.heap[tb + 1]? = some (.cells cur 32 (0, 0)) ∧ cur.size = 3 ∧ ∀ j, j < 3 → cur[j]? = some (.bool (accB (fun i => M i % 3) (i + 1) j))) := ⟨hL, hxk, hxb, hxa⟩
      clear hwx hws hxk hxb hxa hcb hbs hG hL
      refine law_r11 tb wr.heap.size (tb + 1 + 1) len i v si ei wx hHC ⟨by omega, by omega⟩ hv3 hlt hsb heb _ _ _ _ _ _ _ _ _ _ _ _ _ _ _ _ _ _ _ _ _ _ _ _ _ _ _ _ _ _ _ _ _ _ _ _ _ _ _ _ _ _ _ _ _ _ _ _ _ _ _ _ _ _ _ _ _ _ _ _ _ _ _ _ _ _ _ _ _ _ _ _ _ _ _ _ _ _ _ _ _ _ _ _ _ _ _ (fun r sb W e70 e71 e73 e74 e76 e77 e78 e79 e80 e81 e82 e83 e84 e85 e86 e87 e88 hB hM hc => ?_)
      obtain ⟨hL, hxk, hxb, hxa⟩ := hA2.out
      have hLn : L1 w tb (tb + 1) (tb + 1 + 1) len (fun i => M i % 3) (fun i => 100000 + s i) (fun i => 100000 + e i) (i + 1) (W.setCells (tb + 1 + 1) (i * 9) (conA r (100000 + si) (100000 + ei)).toList) := by
        have h := hL.lay (r := r) (sb := sb) hlt (by rw [hVi]; exact hv3) (.inr (by omega)) hxk hxb hxa hB hM (by rw [hVi]; exact hc)
        rw [← hsi, ← hei]
        exact h
      have hA3 : Aside (L1 w tb (tb + 1) (tb + 1 + 1) len (fun i => M i % 3) (fun i => 100000 + s i) (fun i => 100000 + e i) (i + 1) (W.setCells (tb + 1 + 1) (i * 9) (conA r (100000 + si) (100000 + ei)).toList)) := hLn
      clear hL hxk hxb hxa hB hM hc hLn hA2 hHC hm hsi hei hv hVi hAL
      go_wp2
      go_roundg (len - i)
      case measure => omega
      case rel => exact ⟨i + 1, by go_num, by omega, by omega, hA3.out⟩
    · obtain rfl : i = len := by omega
      have hAL : Aside (L1 w tb (tb + 1) (tb + 1 + 1) i (fun i => M i % 3) (fun i => 100000 + s i) (fun i => 100000 + e i) i wr) := hL
      clear hL
      go_wp2
      refine hK1'.out _ _ ?_
      exact hAR.out tb (tb + 1) (tb + 1 + 1) wr hAL.out _ _ _ _ _ _ _ _ _ _ _ _ _ _ _ _ _ _ _ _ _ _ _ _ _ _ _ _ _ _ _ _ _ _ _ _ _ _ _ _ _ _ _ _ _ _ _ _ _ _ _ _ _ _ _ _ _ _ _ _ _ _ _ _ _ _ _ _ _ _ _ _ _ _ _ _ _ _ _ _ _ _ _ _ _ _ _ _ _ _ _ _ _ _ _ _ _ _ _ _ _ _ _ _ _ _ _ _ _ _ _ _ _ _ _ _ _ _ _ _ _ _ _ _ _ _ _ _ _ _ _ _ _ _ _ _ _ _ _ _ _ _ _ _ _ _ _ _ _ _ _ _ _ _ _ _ _ _ _ _ _ _ _ _ _ _ _ _ _ _ _ _ _ _ _ _ _ _ _ _ _ _ _ _ _ _ _ _ _ _ _ _ _ _ _ _ _ _ _ _ _ _ _ _ _ _ _ _ _ _ _ _ _ _ _ _ _ _ _ _ _ _ _ _ _ _ _ _ _ _ _ _ _ _ _ _ _ _ _ _ _ _ _ _ _ _ _ _ _ _ _ _ _ _ _ _ _ _ _ _ _ _ _ _ _ _ _ _ _ _ _ _ _ _ _ _ _ _ _ _ _ _ _ _ _ _ _ _ _ _ _ _ _ _ _ _ _ _ _ _ _ _ _ _ _ _ _ _ _ _ _ _ _ _ _ _ _ _ _
end Go.Proofs.YbulkcelaGreatDoor
