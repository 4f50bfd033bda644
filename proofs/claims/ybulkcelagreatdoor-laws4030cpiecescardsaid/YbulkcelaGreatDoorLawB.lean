/-
  LawS4030CPieces: the history is laid (seat b4030aZD).
-/
import Derived.Test.YbulkcelaGreatDoorLawB2
namespace Go.Proofs.YbulkcelaGreatDoor
open Go.RowKit Go.MapKept Go.Lib Go.Shelf Go.Maps Go.Sort

noncomputable def lawD : Code := (Ybaz.f3.body.bind (fromR 34)).getD .skip

theorem Ybaz.info51 : (Ybaz.prog.info? 51).map (fun i => (i.zero, i.size, i.bytes)) = some (some (.agg #[.int .u64 0, .int .i64 0, .pointer none, .int .i64 0, .map none]), 5, 40) := by kernel_rfl

theorem make43 (n : Nat) (hn : n ≤ 1000) : ∃ zc : Array Value, zc.size = n * 5 ∧ ∀ w : World, (Instr.makeSlice 43 (.int .i64 n) (.int .i64 n)).run Ybaz.prog w = .ok (.slice (some ⟨w.heap.size, 0, none⟩) n n) (w.alloc (.cells zc 51)) := by
  obtain ⟨i0, hi, hz0, hz1, hz2⟩ := info_parts Ybaz.info51
  refine ⟨madeCells (Value.agg #[.int .u64 0, .int .i64 0, .pointer none, .int .i64 0, .map none]).cells (n * 5), by rw [size_madeCells], fun w => ?_⟩
  have hmk := run_make (P := Ybaz.prog) w 43 51 i0 _ Ybaz.underlying43 hi hz0 .i64 .i64 n n (by omega) (Int.le_refl _) (by rw [hz2]; omega) (by omega)
  rw [hz1] at hmk
  simp only [Int.toNat_natCast] at hmk
  exact hmk

theorem L2.start {n len : Nat} {V : Nat → Nat} {key C : Nat → Int} (wB : World) (zc : Array Value) (hz : zc.size = n * 5) : L2 wB n len V key C 0 (.slice none 0 0) (.slice none 0 0) (wB.alloc (.cells zc 51)) :=
  ⟨(Below.refl _ _).alloc (Nat.le_refl _) _, ⟨zc, by rw [alloc_at, if_pos rfl], hz⟩, fun j hj => absurd hj (Nat.not_lt_zero _), ⟨by simp [hist], .inl ⟨rfl, rfl⟩⟩, ⟨by simp [hist], .inl ⟨rfl, rfl⟩⟩⟩

set_option linter.unusedSimpArgs false in
set_option maxRecDepth 100000 in
set_option maxHeartbeats 4000000 in
theorem law_B (a0 a1 : Option Addr) (n cap0 len cap1 tb ab N : Nat) (f d sp : Int) (V M : Nat → Nat) (S E C : Nat → Int) (w wB : World) (hn : n ≤ 300) (hArg : ArgR w w.heap.size a0 n M C) (hC : ∀ j, (C j).natAbs ≤ 2147483648) (hL1 : L1 w tb ab N len V S E len wB) (Q : Exit → Act → World → Prop) (hrest : ∀ (kv cv : Value) (wr : World), L2 wB n len V (keyR V len M) C n kv cv wr → ∀ (c5 c6 c7 c8 c9 c10 c14 c15 c16 c20 c21 c22 c23 c24 c25 c26 c27 c28 c29 c30 c31 c32 c33 c34 c35 c36 c37 c38 c39 c40 c41 c42 c43 c44 c45 c46 c47 c48 c49 c50 c51 c52 c53 c54 c55 c56 c57 c58 c59 c60 c61 c62 c63 c64 c65 c66 c67 c68 c69 c70 c71 c72 c73 c74 c75 c76 c77 c78 c79 c80 c81 c82 c83 c84 c85 c86 c87 c88 c89 c90 c91 c92 c93 c94 c95 c96 c97 c98 c99 c100 c101 c102 c103 c104 c105 c106 c107 c108 c109 c110 c111 c112 c113 c114 c115 c116 c117 c118 c119 c120 c121 c122 c123 c124 c125 c126 c127 c128 c129 c130 c131 c132 c133 c134 c135 c136 c137 c138 c139 c140 c141 c142 c143 c144 c145 c146 c147 c148 c149 c150 c151 c152 c153 c154 c155 c156 c157 c158 c159 c160 c161 c162 c163 c164 c165 c166 c167 c168 c169 c170 c171 c172 c173 c174 c175 c176 c177 c178 c179 c180 c181 c182 c183 c184 c185 c186 c187 c188 c189 c190 c191 c192 c193 c194 c195 c196 c197 c198 c199 c200 c201 c202 c203 c204 c205 c206 c207 c208 c209 c210 c211 c212 c213 c214 c215 c216 c217 c218 c219 c220 c221 c222 c223 c224 c225 c226 c227 c228 c229 c230 c231 c232 c233 c234 c235 c236 c237 c238 c239 c240 c241 c242 c243 c244 c245 c246 c247 c248 c249 c250 c251 c252 c253 c254 c255 c256 c257 c258 c259 c260 c261 c262 c263 c264 c265 c266 c267 c268 c269 c270 c271 c272 c273 c274 c275 c276 c277 c278 c279 c280 c281 c282 c283 c284 c285 c286 c287 c288 c289 c290 c291 c292 c293 c294 c295 c296 c297 c298 c299 c300 c301 c302 c303 c304 c305 c306 c307 c308 c309 c310 c311 c312 c313 c314 c315 c316 c317 c318 c319 c320 c321 c322 c323 c324 c325 c326 : Value), lawD.wp Ybaz.prog Q ⟨#[.slice a0 n cap0, .slice a1 len cap1, .int .i16 f, .int .u16 d, .int .u16 sp, c5, c6, c7, c8, c9, c10, .pointer (some ⟨tb, 0, none⟩), .pointer (some ⟨ab, 0, none⟩), .slice (some ⟨N, 0, none⟩) len len, c14, c15, c16, .slice (some ⟨wB.heap.size, 0, none⟩) n n, kv, cv, c20, c21, c22, c23, c24, c25, c26, c27, c28, c29, c30, c31, c32, c33, c34, c35, c36, c37, c38, c39, c40, c41, c42, c43, c44, c45, c46, c47, c48, c49, c50, c51, c52, c53, c54, c55, c56, c57, c58, c59, c60, c61, c62, c63, c64, c65, c66, c67, c68, c69, c70, c71, c72, c73, c74, c75, c76, c77, c78, c79, c80, c81, c82, c83, c84, c85, c86, c87, c88, c89, c90, c91, c92, c93, c94, c95, c96, c97, c98, c99, c100, c101, c102, c103, c104, c105, c106, c107, c108, c109, c110, c111, c112, c113, c114, c115, c116, c117, c118, c119, c120, c121, c122, c123, c124, c125, c126, c127, c128, c129, c130, c131, c132, c133, c134, c135, c136, c137, c138, c139, c140, c141, c142, c143, c144, c145, c146, c147, c148, c149, c150, c151, c152, c153, c154, c155, c156, c157, c158, c159, c160, c161, c162, c163, c164, c165, c166, c167, c168, c169, c170, c171, c172, c173, c174, c175, c176, c177, c178, c179, c180, c181, c182, c183, c184, c185, c186, c187, c188, c189, c190, c191, c192, c193, c194, c195, c196, c197, c198, c199, c200, c201, c202, c203, c204, c205, c206, c207, c208, c209, c210, c211, c212, c213, c214, c215, c216, c217, c218, c219, c220, c221, c222, c223, c224, c225, c226, c227, c228, c229, c230, c231, c232, c233, c234, c235, c236, c237, c238, c239, c240, c241, c242, c243, c244, c245, c246, c247, c248, c249, c250, c251, c252, c253, c254, c255, c256, c257, c258, c259, c260, c261, c262, c263, c264, c265, c266, c267, c268, c269, c270, c271, c272, c273, c274, c275, c276, c277, c278, c279, c280, c281, c282, c283, c284, c285, c286, c287, c288, c289, c290, c291, c292, c293, c294, c295, c296, c297, c298, c299, c300, c301, c302, c303, c304, c305, c306, c307, c308, c309, c310, c311, c312, c313, c314, c315, c316, c317, c318, c319, c320, c321, c322, c323, c324, c325, c326], []⟩ wr) (c5 c6 c7 c8 c9 c10 c14 c15 c16 c17 c18 c19 c20 c21 c22 c23 c24 c25 c26 c27 c28 c29 c30 c31 c32 c33 c34 c35 c36 c37 c38 c39 c40 c41 c42 c43 c44 c45 c46 c47 c48 c49 c50 c51 c52 c53 c54 c55 c56 c57 c58 c59 c60 c61 c62 c63 c64 c65 c66 c67 c68 c69 c70 c71 c72 c73 c74 c75 c76 c77 c78 c79 c80 c81 c82 c83 c84 c85 c86 c87 c88 c89 c90 c91 c92 c93 c94 c95 c96 c97 c98 c99 c100 c101 c102 c103 c104 c105 c106 c107 c108 c109 c110 c111 c112 c113 c114 c115 c116 c117 c118 c119 c120 c121 c122 c123 c124 c125 c126 c127 c128 c129 c130 c131 c132 c133 c134 c135 c136 c137 c138 c139 c140 c141 c142 c143 c144 c145 c146 c147 c148 c149 c150 c151 c152 c153 c154 c155 c156 c157 c158 c159 c160 c161 c162 c163 c164 c165 c166 c167 c168 c169 c170 c171 c172 c173 c174 c175 c176 c177 c178 c179 c180 c181 c182 c183 c184 c185 c186 c187 c188 c189 c190 c191 c192 c193 c194 c195 c196 c197 c198 c199 c200 c201 c202 c203 c204 c205 c206 c207 c208 c209 c210 c211 c212 c213 c214 c215 c216 c217 c218 c219 c220 c221 c222 c223 c224 c225 c226 c227 c228 c229 c230 c231 c232 c233 c234 c235 c236 c237 c238 c239 c240 c241 c242 c243 c244 c245 c246 c247 c248 c249 c250 c251 c252 c253 c254 c255 c256 c257 c258 c259 c260 c261 c262 c263 c264 c265 c266 c267 c268 c269 c270 c271 c272 c273 c274 c275 c276 c277 c278 c279 c280 c281 c282 c283 c284 c285 c286 c287 c288 c289 c290 c291 c292 c293 c294 c295 c296 c297 c298 c299 c300 c301 c302 c303 c304 c305 c306 c307 c308 c309 c310 c311 c312 c313 c314 c315 c316 c317 c318 c319 c320 c321 c322 c323 c324 c325 c326 : Value) :
    lawB.wp Ybaz.prog Q ⟨#[.slice a0 n cap0, .slice a1 len cap1, .int .i16 f, .int .u16 d, .int .u16 sp, c5, c6, c7, c8, c9, c10, .pointer (some ⟨tb, 0, none⟩), .pointer (some ⟨ab, 0, none⟩), .slice (some ⟨N, 0, none⟩) len len, c14, c15, c16, c17, c18, c19, c20, c21, c22, c23, c24, c25, c26, c27, c28, c29, c30, c31, c32, c33, c34, c35, c36, c37, c38, c39, c40, c41, c42, c43, c44, c45, c46, c47, c48, c49, c50, c51, c52, c53, c54, c55, c56, c57, c58, c59, c60, c61, c62, c63, c64, c65, c66, c67, c68, c69, c70, c71, c72, c73, c74, c75, c76, c77, c78, c79, c80, c81, c82, c83, c84, c85, c86, c87, c88, c89, c90, c91, c92, c93, c94, c95, c96, c97, c98, c99, c100, c101, c102, c103, c104, c105, c106, c107, c108, c109, c110, c111, c112, c113, c114, c115, c116, c117, c118, c119, c120, c121, c122, c123, c124, c125, c126, c127, c128, c129, c130, c131, c132, c133, c134, c135, c136, c137, c138, c139, c140, c141, c142, c143, c144, c145, c146, c147, c148, c149, c150, c151, c152, c153, c154, c155, c156, c157, c158, c159, c160, c161, c162, c163, c164, c165, c166, c167, c168, c169, c170, c171, c172, c173, c174, c175, c176, c177, c178, c179, c180, c181, c182, c183, c184, c185, c186, c187, c188, c189, c190, c191, c192, c193, c194, c195, c196, c197, c198, c199, c200, c201, c202, c203, c204, c205, c206, c207, c208, c209, c210, c211, c212, c213, c214, c215, c216, c217, c218, c219, c220, c221, c222, c223, c224, c225, c226, c227, c228, c229, c230, c231, c232, c233, c234, c235, c236, c237, c238, c239, c240, c241, c242, c243, c244, c245, c246, c247, c248, c249, c250, c251, c252, c253, c254, c255, c256, c257, c258, c259, c260, c261, c262, c263, c264, c265, c266, c267, c268, c269, c270, c271, c272, c273, c274, c275, c276, c277, c278, c279, c280, c281, c282, c283, c284, c285, c286, c287, c288, c289, c290, c291, c292, c293, c294, c295, c296, c297, c298, c299, c300, c301, c302, c303, c304, c305, c306, c307, c308, c309, c310, c311, c312, c313, c314, c315, c316, c317, c318, c319, c320, c321, c322, c323, c324, c325, c326], []⟩ wB := by
  have hAR : Aside (∀ (kv cv : Value) (wr : World), L2 wB n len V (keyR V len M) C n kv cv wr → ∀ (c5 c6 c7 c8 c9 c10 c14 c15 c16 c20 c21 c22 c23 c24 c25 c26 c27 c28 c29 c30 c31 c32 c33 c34 c35 c36 c37 c38 c39 c40 c41 c42 c43 c44 c45 c46 c47 c48 c49 c50 c51 c52 c53 c54 c55 c56 c57 c58 c59 c60 c61 c62 c63 c64 c65 c66 c67 c68 c69 c70 c71 c72 c73 c74 c75 c76 c77 c78 c79 c80 c81 c82 c83 c84 c85 c86 c87 c88 c89 c90 c91 c92 c93 c94 c95 c96 c97 c98 c99 c100 c101 c102 c103 c104 c105 c106 c107 c108 c109 c110 c111 c112 c113 c114 c115 c116 c117 c118 c119 c120 c121 c122 c123 c124 c125 c126 c127 c128 c129 c130 c131 c132 c133 c134 c135 c136 c137 c138 c139 c140 c141 c142 c143 c144 c145 c146 c147 c148 c149 c150 c151 c152 c153 c154 c155 c156 c157 c158 c159 c160 c161 c162 c163 c164 c165 c166 c167 c168 c169 c170 c171 c172 c173 c174 c175 c176 c177 c178 c179 c180 c181 c182 c183 c184 c185 c186 c187 c188 c189 c190 c191 c192 c193 c194 c195 c196 c197 c198 c199 c200 c201 c202 c203 c204 c205 c206 c207 c208 c209 c210 c211 c212 c213 c214 c215 c216 c217 c218 c219 c220 c221 c222 c223 c224 c225 c226 c227 c228 c229 c230 c231 c232 c233 c234 c235 c236 c237 c238 c239 c240 c241 c242 c243 c244 c245 c246 c247 c248 c249 c250 c251 c252 c253 c254 c255 c256 c257 c258 c259 c260 c261 c262 c263 c264 c265 c266 c267 c268 c269 c270 c271 c272 c273 c274 c275 c276 c277 c278 c279 c280 c281 c282 c283 c284 c285 c286 c287 c288 c289 c290 c291 c292 c293 c294 c295 c296 c297 c298 c299 c300 c301 c302 c303 c304 c305 c306 c307 c308 c309 c310 c311 c312 c313 c314 c315 c316 c317 c318 c319 c320 c321 c322 c323 c324 c325 c326 : Value), lawD.wp Ybaz.prog Q ⟨#[.slice a0 n cap0, .slice a1 len cap1, .int .i16 f, .int .u16 d, .int .u16 sp, c5, c6, c7, c8, c9, c10, .pointer (some ⟨tb, 0, none⟩), .pointer (some ⟨ab, 0, none⟩), .slice (some ⟨N, 0, none⟩) len len, c14, c15, c16, .slice (some ⟨wB.heap.size, 0, none⟩) n n, kv, cv, c20, c21, c22, c23, c24, c25, c26, c27, c28, c29, c30, c31, c32, c33, c34, c35, c36, c37, c38, c39, c40, c41, c42, c43, c44, c45, c46, c47, c48, c49, c50, c51, c52, c53, c54, c55, c56, c57, c58, c59, c60, c61, c62, c63, c64, c65, c66, c67, c68, c69, c70, c71, c72, c73, c74, c75, c76, c77, c78, c79, c80, c81, c82, c83, c84, c85, c86, c87, c88, c89, c90, c91, c92, c93, c94, c95, c96, c97, c98, c99, c100, c101, c102, c103, c104, c105, c106, c107, c108, c109, c110, c111, c112, c113, c114, c115, c116, c117, c118, c119, c120, c121, c122, c123, c124, c125, c126, c127, c128, c129, c130, c131, c132, c133, c134, c135, c136, c137, c138, c139, c140, c141, c142, c143, c144, c145, c146, c147, c148, c149, c150, c151, c152, c153, c154, c155, c156, c157, c158, c159, c160, c161, c162, c163, c164, c165, c166, c167, c168, c169, c170, c171, c172, c173, c174, c175, c176, c177, c178, c179, c180, c181, c182, c183, c184, c185, c186, c187, c188, c189, c190, c191, c192, c193, c194, c195, c196, c197, c198, c199, c200, c201, c202, c203, c204, c205, c206, c207, c208, c209, c210, c211, c212, c213, c214, c215, c216, c217, c218, c219, c220, c221, c222, c223, c224, c225, c226, c227, c228, c229, c230, c231, c232, c233, c234, c235, c236, c237, c238, c239, c240, c241, c242, c243, c244, c245, c246, c247, c248, c249, c250, c251, c252, c253, c254, c255, c256, c257, c258, c259, c260, c261, c262, c263, c264, c265, c266, c267, c268, c269, c270, c271, c272, c273, c274, c275, c276, c277, c278, c279, c280, c281, c282, c283, c284, c285, c286, c287, c288, c289, c290, c291, c292, c293, c294, c295, c296, c297, c298, c299, c300, c301, c302, c303, c304, c305, c306, c307, c308, c309, c310, c311, c312, c313, c314, c315, c316, c317, c318, c319, c320, c321, c322, c323, c324, c325, c326], []⟩ wr) := hrest
  have hA : Aside (ArgR w w.heap.size a0 n M C ∧ (∀ j, (C j).natAbs ≤ 2147483648) ∧ L1 w tb ab N len V S E len wB) := ⟨hArg, hC, hL1⟩
  clear hrest hArg hC hL1
  obtain ⟨zc, hzs, hmk⟩ := make43 n (by omega)
  have hAst : Aside (L2 wB n len V (keyR V len M) C 0 (.slice none 0 0) (.slice none 0 0) (wB.alloc (.cells zc 51))) := L2.start wB zc hzs
  clear hzs
  conv => arg 2; whnf
  go_wp2
  rename_i K1 hK1
  have hK1' : Aside (∀ (a : Act) (w : World), _ → K1 a w) := hK1
  clear hK1 hmk
  go_loopg [95, 18, 19] (n + 1) (fun q v95 v18 v19 wx => ∃ (i : Nat) (kv cv : Value), v95 = .int .i64 i ∧ v18 = kv ∧ v19 = cv ∧ i ≤ n ∧ n - i < q ∧ L2 wB n len V (keyR V len M) C i kv cv wx)
  case atStart => exact ⟨0, _, _, rfl, rfl, rfl, Nat.zero_le _, by omega, hAst.out⟩
  case round =>
    obtain ⟨i, kv, cv, rfl, hv18, hv19, hiL, hq, hL⟩ := hrel
    obtain rfl := hv18.symm
    obtain rfl := hv19.symm
    clear hv18 hv19
    by_cases hlt : i < n
    · obtain ⟨hArg, hC, hL1⟩ := hA.out
      obtain ⟨b, off, rfl, hbB, p0, p1, m255, hc0, hc1⟩ := hArg i hlt
      have hwB := hL1.below.size
      have hbel : Below w.heap.size w wr := hL1.below.trans (hL.below.mono hwB)
      have o0 := (hbel.cell (p := ⟨b, off + i * 2, none⟩) hbB).trans p0
      have o1 := (hbel.cell (p := ⟨b, off + i * 2 + 1, none⟩) hbB).trans p1
      have hlt' : (i : Int) < (n : Int) := by omega
      obtain ⟨m, hm⟩ : ∃ m, M i = m := ⟨_, rfl⟩
      obtain ⟨ci, hci⟩ : ∃ ci, C i = ci := ⟨_, rfl⟩
      obtain ⟨v, hv⟩ : ∃ v, m % 4 = v := ⟨_, rfl⟩
      rw [hm] at o0 m255
      rw [hci] at o1
      have htm : (m : Int).tmod 4 = (v : Int) := by rw [← hv]; exact (Int.ofNat_tmod m 4).symm
      have hwm : IntKind.i64.wrap (m : Int) = (m : Int) := (IntWalk.i64_left _).trans (by unfold wrap64; omega)
      have hbr : b < wr.heap.size := by have := hbel.size; omega
      have hkey : keyR V len M i = if v < 3 ∧ accB V len v = true then ((v : Nat) : Int) else -1 := by unfold keyR; rw [hm, hv]
      have hAL : Aside (L2 wB n len V (keyR V len M) C i kv cv wr ∧ C i = ci ∧ keyR V len M i = (if v < 3 ∧ accB V len v = true then ((v : Nat) : Int) else -1)) := ⟨hL, hci, hkey⟩
      by_cases hv3 : v < 3
      · have hvi : (v : Int) < 3 := by omega
        obtain ⟨cur, g1, g2, g3⟩ := hL1.acc
        have habB : ab < wB.heap.size := (Array.getElem?_eq_some_iff.1 g1).1
        have habr : ab < wr.heap.size := by have := hL.below.size; omega
        have x0 : wr.cell? ⟨ab, v, none⟩ = some (.bool (accB V len v)) := (hL.below.cell (p := ⟨ab, v, none⟩) habB).trans ((Joins.cell_of_block g1 v).trans (g3 v hv3))
        have h5 := fun W => val5 v hv3 W
        have hmm := @run_makeMap Ybaz.prog
        obtain ⟨X, hX⟩ : ∃ X, (wr.alloc (.cells #[.int .u8 (m : Nat), .int .i32 ci] 47)).alloc (.map #[] 0) = X := ⟨_, rfl⟩
        have hMX : MapL X (wr.heap.size + 1) [] := by rw [← hX]; exact made_at (by simp)
        obtain ⟨w2, hup, hM2, hg2, hs2⟩ := hMX.store_new (t := 49) (e := 9) Ybaz.underlying49 (s := aS) aS_size (fun v hv => by cases hv) (.string (valS v))
        have hup' : (Instr.mapUpdate 49 (.map (some (wr.heap.size + 1))) (.string ⟨#[97]⟩) (.string (valS v))).run Ybaz.prog ((wr.alloc (.cells #[.int .u8 (m : Nat), .int .i32 ci] 47)).alloc (.map #[] 0)) = .ok () w2 := by rw [hX]; exact hup
        have hXb : Below wr.heap.size wr X := by rw [← hX]; exact ((Below.refl _ _).alloc (Nat.le_refl _) _).alloc (by simp) _
        have hb2 : Below wr.heap.size wr w2 := hXb.grown hg2 hXb.size (fun k e => by injection e with e; omega)
        have hr2 : w2.heap[wr.heap.size]? = some (.cells #[.int .u8 (m : Nat), .int .i32 ci] 47 (0, 0)) := by
          refine (hg2.block _ ?_ (fun e => by injection e with e; omega)).trans ?_
          · rw [← hX]; simp <;> omega
          · rw [← hX, alloc_at, if_neg (by simp), alloc_at, if_pos rfl]
        have y0 : w2.cell? ⟨ab, v, none⟩ = some (.bool (accB V len v)) := (hb2.cell (p := ⟨ab, v, none⟩) habr).trans x0
        have hA2 : Aside (MapL w2 (wr.heap.size + 1) [(aS, .string (valS v))] ∧ Below wr.heap.size wr w2 ∧ w2.heap[wr.heap.size]? = some (.cells #[.int .u8 (m : Nat), .int .i32 ci] 47 (0, 0))) := ⟨hM2, hb2, hr2⟩
        obtain ⟨ac, hac⟩ : ∃ ac, accB V len v = ac := ⟨_, rfl⟩
        rw [hac] at x0 y0
        clear hArg hC hL1 hL p0 p1 hX hMX hup hM2 hg2 hs2 hXb hb2 hr2 g1 g2 g3 hm hv hkey hbel hci
        have hAC : Aside (∀ j, (C j).natAbs ≤ 2147483648) := hA.out.2.1
        cases hca : ac
        · rw [hca] at hac x0 y0
          clear hca
          have hkk : keyR V len M i = (-1) := by rw [hAL.out.2.2, hac]; simp
          have hAk : Aside (keyR V len M i = (-1) ∧ accB V len v = false) := ⟨hkk, hac⟩
          clear hkk hac
          refine wp_seq_k fun Ka hKa => ?_
          have hKa' : Aside (∀ (a : Act) (w : World), _ → Ka a w) := hKa
          clear hKa
          go_wp2
          refine hKa'.out _ _ ?_
          clear hKa'
          refine wp_seq_k fun Kb hKb => ?_
          have hKb' : Aside (∀ (a : Act) (w : World), _ → Kb a w) := hKb
          clear hKb
          go_wp2
          refine hKb'.out _ _ ?_
          clear hKb'
          refine wp_seq_k fun Kc hKc => ?_
          have hKc' : Aside (∀ (a : Act) (w : World), _ → Kc a w) := hKc
          clear hKc
          refine wp_block ?_
          refine wp_seq_k fun Kd hKd => ?_
          have hKd' : Aside (∀ (a : Act) (w : World), _ → Kd a w) := hKd
          clear hKd
          go_wp2
          refine hKd'.out _ _ ?_
          clear hKd'
          refine wp_seq_k fun Ke hKe => ?_
          have hKe' : Aside (∀ (a : Act) (w : World), _ → Ke a w) := hKe
          clear hKe
          go_wp2
          refine hKe'.out _ _ ?_
          clear hKe'
          refine wp_seq_k fun Kf hKf => ?_
          have hKf' : Aside (∀ (a : Act) (w : World), _ → Kf a w) := hKf
          clear hKf
          go_wp2
          refine hKf'.out _ _ ?_
          clear hKf'
          refine wp_seq_k fun Kg hKg => ?_
          have hKg' : Aside (∀ (a : Act) (w : World), _ → Kg a w) := hKg
          clear hKg
          go_wp2
          refine hKg'.out _ _ ?_
          clear hKg'
          refine wp_seq_k fun Kx hKx => ?_
          have hKx' : Aside (∀ (a : Act) (w : World), _ → Kx a w) := hKx
          clear hKx
          go_wp2_with (go_at_call 5; refine (h5 _).mono ?_; rintro e w9 ⟨rfl, hw9⟩; obtain rfl := hw9.symm; dsimp only)
          refine hKx'.out _ _ ?_
          clear hKx'
          refine law_B2 n len i wr.heap.size V (keyR V len M) C kv cv (some (wr.heap.size + 1)) (-1) (.int .u8 (m : Nat)) wB wr w2 hn hlt hAk.out.1 hAC.out hAL.out.1 hA2.out.2.1 (.inr ⟨_, v, rfl, hv3, hA2.out.1, by rw [hAk.out.1, hAk.out.2]; simp⟩) (Nat.le_refl _) (by rw [hAL.out.2.1]; exact hA2.out.2.2) _ _ _ _ _ _ _ _ _ _ _ _ _ _ _ _ _ _ _ _ _ _ _ _ _ _ _ _ _ _ _ _ _ _ _ _ _ _ _ _ _ _ _ _ _ _ _ _ _ _ _ _ _ _ _ _ _ _ _ _ _ _ _ _ _ _ _ _ _ _ _ _ _ _ _ _ _ _ _ _ _ _ _ _ _ _ _ _ _ _ _ _ _ _ _ _ _ _ _ _ _ _ _ _ _ _ _ _ _ _ _ _ _ _ _ _ _ _ _ _ _ _ _ _ _ _ _ _ _ _ _ _ _ _ _ _ _ _ _ _ _ _ _ _ _ _ _ _ _ _ _ _ _ _ _ _ _ _ _ _ _ _ _ _ _ _ _ _ _ _ _ _ _ _ _ _ _ _ _ _ _ _ _ _ _ _ _ _ _ _ _ _ _ _ _ _ _ _ _ _ _ _ _ _ _ _ _ _ _ _ _ _ _ _ _ _ _ _ _ _ _ _ _ _ _ _ _ _ _ _ _ _ _ _ _ _ _ _ _ _ _ _ _ _ _ _ _ _ _ _ _ _ _ _ _ _ _ _ _ _ _ _ _ _ _ _ _ _ _ _ _ _ _ _ _ _ _ _ _ _ _ _ _ _ _ _ _ _ _ _ _ _ _ _ _ _ _ _ _ _ _ _ _ _ _ _ _ _ _ _ _ _ _ _ _ _ _ _ _ _ _ (fun kv' cv' w' e25 e114 e115 e116 e117 e118 e119 e120 e121 e122 e123 e124 e125 e126 e127 e128 e129 e130 e131 e132 e133 e134 e135 e136 e137 e138 e139 e140 e141 e142 e143 e144 hL' => ?_)
          refine hKc'.out _ _ ?_
          have hA9 : Aside (L2 wB n len V (keyR V len M) C (i + 1) kv' cv' w') := hL'
          clear hL' hKc'
          go_wp2
          go_roundg (n - i)
          case measure => omega
          case rel => exact ⟨i + 1, _, _, by go_num, rfl, rfl, by omega, by omega, hA9.out⟩
        · rw [hca] at hac x0 y0
          clear hca
          have hkk : keyR V len M i = ((v : Nat) : Int) := by rw [hAL.out.2.2, hac]; simp [hv3]
          have hAk : Aside (keyR V len M i = ((v : Nat) : Int) ∧ accB V len v = true) := ⟨hkk, hac⟩
          clear hkk hac
          refine wp_seq_k fun Ka hKa => ?_
          have hKa' : Aside (∀ (a : Act) (w : World), _ → Ka a w) := hKa
          clear hKa
          go_wp2
          refine hKa'.out _ _ ?_
          clear hKa'
          refine wp_seq_k fun Kb hKb => ?_
          have hKb' : Aside (∀ (a : Act) (w : World), _ → Kb a w) := hKb
          clear hKb
          go_wp2
          refine hKb'.out _ _ ?_
          clear hKb'
          refine wp_seq_k fun Kc hKc => ?_
          have hKc' : Aside (∀ (a : Act) (w : World), _ → Kc a w) := hKc
          clear hKc
          refine wp_block ?_
          refine wp_seq_k fun Kd hKd => ?_
          have hKd' : Aside (∀ (a : Act) (w : World), _ → Kd a w) := hKd
          clear hKd
          go_wp2
          refine hKd'.out _ _ ?_
          clear hKd'
          refine wp_seq_k fun Ke hKe => ?_
          have hKe' : Aside (∀ (a : Act) (w : World), _ → Ke a w) := hKe
          clear hKe
          go_wp2
          refine hKe'.out _ _ ?_
          clear hKe'
          refine wp_seq_k fun Kf hKf => ?_
          have hKf' : Aside (∀ (a : Act) (w : World), _ → Kf a w) := hKf
          clear hKf
          go_wp2
          refine hKf'.out _ _ ?_
          clear hKf'
          refine wp_seq_k fun Kg hKg => ?_
          have hKg' : Aside (∀ (a : Act) (w : World), _ → Kg a w) := hKg
          clear hKg
          go_wp2
          refine hKg'.out _ _ ?_
          clear hKg'
          refine wp_seq_k fun Kx hKx => ?_
          have hKx' : Aside (∀ (a : Act) (w : World), _ → Kx a w) := hKx
          clear hKx
          go_wp2_with (go_at_call 5; refine (h5 _).mono ?_; rintro e w9 ⟨rfl, hw9⟩; obtain rfl := hw9.symm; dsimp only)
          refine hKx'.out _ _ ?_
          clear hKx'
          refine law_B2 n len i wr.heap.size V (keyR V len M) C kv cv (some (wr.heap.size + 1)) ((v : Nat) : Int) (.int .u8 (m : Nat)) wB wr w2 hn hlt hAk.out.1 hAC.out hAL.out.1 hA2.out.2.1 (.inr ⟨_, v, rfl, hv3, hA2.out.1, by rw [hAk.out.1, hAk.out.2]; simp⟩) (Nat.le_refl _) (by rw [hAL.out.2.1]; exact hA2.out.2.2) _ _ _ _ _ _ _ _ _ _ _ _ _ _ _ _ _ _ _ _ _ _ _ _ _ _ _ _ _ _ _ _ _ _ _ _ _ _ _ _ _ _ _ _ _ _ _ _ _ _ _ _ _ _ _ _ _ _ _ _ _ _ _ _ _ _ _ _ _ _ _ _ _ _ _ _ _ _ _ _ _ _ _ _ _ _ _ _ _ _ _ _ _ _ _ _ _ _ _ _ _ _ _ _ _ _ _ _ _ _ _ _ _ _ _ _ _ _ _ _ _ _ _ _ _ _ _ _ _ _ _ _ _ _ _ _ _ _ _ _ _ _ _ _ _ _ _ _ _ _ _ _ _ _ _ _ _ _ _ _ _ _ _ _ _ _ _ _ _ _ _ _ _ _ _ _ _ _ _ _ _ _ _ _ _ _ _ _ _ _ _ _ _ _ _ _ _ _ _ _ _ _ _ _ _ _ _ _ _ _ _ _ _ _ _ _ _ _ _ _ _ _ _ _ _ _ _ _ _ _ _ _ _ _ _ _ _ _ _ _ _ _ _ _ _ _ _ _ _ _ _ _ _ _ _ _ _ _ _ _ _ _ _ _ _ _ _ _ _ _ _ _ _ _ _ _ _ _ _ _ _ _ _ _ _ _ _ _ _ _ _ _ _ _ _ _ _ _ _ _ _ _ _ _ _ _ _ _ _ _ _ _ _ _ _ _ _ _ _ _ _ (fun kv' cv' w' e25 e114 e115 e116 e117 e118 e119 e120 e121 e122 e123 e124 e125 e126 e127 e128 e129 e130 e131 e132 e133 e134 e135 e136 e137 e138 e139 e140 e141 e142 e143 e144 hL' => ?_)
          refine hKc'.out _ _ ?_
          have hA9 : Aside (L2 wB n len V (keyR V len M) C (i + 1) kv' cv' w') := hL'
          clear hL' hKc'
          go_wp2
          go_roundg (n - i)
          case measure => omega
          case rel => exact ⟨i + 1, _, _, by go_num, rfl, rfl, by omega, by omega, hA9.out⟩
      · have hvi : ¬ ((v : Int) < 3) := by omega
        have hAC : Aside (∀ j, (C j).natAbs ≤ 2147483648) := hA.out.2.1
        have hkk : keyR V len M i = -1 := by rw [hAL.out.2.2, if_neg (fun h => hv3 h.1)]
        have hAk : Aside (keyR V len M i = -1) := hkk
        clear hArg hC hL1 hL p0 p1 hm hv hkey hbel hci hkk
        refine wp_seq_k fun Ka hKa => ?_
        have hKa' : Aside (∀ (a : Act) (w : World), _ → Ka a w) := hKa
        clear hKa
        go_wp2
        refine hKa'.out _ _ ?_
        clear hKa'
        refine wp_seq_k fun Kb hKb => ?_
        have hKb' : Aside (∀ (a : Act) (w : World), _ → Kb a w) := hKb
        clear hKb
        go_wp2
        refine hKb'.out _ _ ?_
        clear hKb'
        refine wp_seq_k fun Kc hKc => ?_
        have hKc' : Aside (∀ (a : Act) (w : World), _ → Kc a w) := hKc
        clear hKc
        refine wp_block ?_
        refine wp_seq_k fun Kd hKd => ?_
        have hKd' : Aside (∀ (a : Act) (w : World), _ → Kd a w) := hKd
        clear hKd
        go_wp2
        refine hKd'.out _ _ ?_
        clear hKd'
        refine wp_seq_k fun Ke hKe => ?_
        have hKe' : Aside (∀ (a : Act) (w : World), _ → Ke a w) := hKe
        clear hKe
        go_wp2
        refine hKe'.out _ _ ?_
        clear hKe'
        refine wp_seq_k fun Kf hKf => ?_
        have hKf' : Aside (∀ (a : Act) (w : World), _ → Kf a w) := hKf
        clear hKf
        go_wp2
        refine hKf'.out _ _ ?_
        clear hKf'
        refine wp_seq_k fun Kg hKg => ?_
        have hKg' : Aside (∀ (a : Act) (w : World), _ → Kg a w) := hKg
        clear hKg
        go_wp2
        refine hKg'.out _ _ ?_
        clear hKg'
        refine wp_seq_k fun Kx hKx => ?_
        have hKx' : Aside (∀ (a : Act) (w : World), _ → Kx a w) := hKx
        clear hKx
        go_wp2
        refine hKx'.out _ _ ?_
        clear hKx'
        refine law_B2 n len i wr.heap.size V (keyR V len M) C kv cv none (-1) (.int .u8 (m : Nat)) wB wr _ hn hlt hAk.out hAC.out hAL.out.1 ((Below.refl _ _).alloc (Nat.le_refl _) _) (.inl ⟨rfl, hAk.out⟩) (Nat.le_refl _) (by rw [hAL.out.2.1, alloc_at, if_pos rfl]) _ _ _ _ _ _ _ _ _ _ _ _ _ _ _ _ _ _ _ _ _ _ _ _ _ _ _ _ _ _ _ _ _ _ _ _ _ _ _ _ _ _ _ _ _ _ _ _ _ _ _ _ _ _ _ _ _ _ _ _ _ _ _ _ _ _ _ _ _ _ _ _ _ _ _ _ _ _ _ _ _ _ _ _ _ _ _ _ _ _ _ _ _ _ _ _ _ _ _ _ _ _ _ _ _ _ _ _ _ _ _ _ _ _ _ _ _ _ _ _ _ _ _ _ _ _ _ _ _ _ _ _ _ _ _ _ _ _ _ _ _ _ _ _ _ _ _ _ _ _ _ _ _ _ _ _ _ _ _ _ _ _ _ _ _ _ _ _ _ _ _ _ _ _ _ _ _ _ _ _ _ _ _ _ _ _ _ _ _ _ _ _ _ _ _ _ _ _ _ _ _ _ _ _ _ _ _ _ _ _ _ _ _ _ _ _ _ _ _ _ _ _ _ _ _ _ _ _ _ _ _ _ _ _ _ _ _ _ _ _ _ _ _ _ _ _ _ _ _ _ _ _ _ _ _ _ _ _ _ _ _ _ _ _ _ _ _ _ _ _ _ _ _ _ _ _ _ _ _ _ _ _ _ _ _ _ _ _ _ _ _ _ _ _ _ _ _ _ _ _ _ _ _ _ _ _ _ _ _ _ _ _ _ _ _ _ _ _ _ _ _ (fun kv' cv' w' e25 e114 e115 e116 e117 e118 e119 e120 e121 e122 e123 e124 e125 e126 e127 e128 e129 e130 e131 e132 e133 e134 e135 e136 e137 e138 e139 e140 e141 e142 e143 e144 hL' => ?_)
        refine hKc'.out _ _ ?_
        have hA9 : Aside (L2 wB n len V (keyR V len M) C (i + 1) kv' cv' w') := hL'
        clear hL' hKc'
        go_wp2
        go_roundg (n - i)
        case measure => omega
        case rel => exact ⟨i + 1, _, _, by go_num, rfl, rfl, by omega, by omega, hA9.out⟩
    · obtain rfl : i = n := by omega
      have hAL : Aside (L2 wB i len V (keyR V len M) C i kv cv wr) := hL
      clear hL
      go_wp2
      refine hK1'.out _ _ ?_
      exact hAR.out kv cv wr hAL.out _ _ _ _ _ _ _ _ _ _ _ _ _ _ _ _ _ _ _ _ _ _ _ _ _ _ _ _ _ _ _ _ _ _ _ _ _ _ _ _ _ _ _ _ _ _ _ _ _ _ _ _ _ _ _ _ _ _ _ _ _ _ _ _ _ _ _ _ _ _ _ _ _ _ _ _ _ _ _ _ _ _ _ _ _ _ _ _ _ _ _ _ _ _ _ _ _ _ _ _ _ _ _ _ _ _ _ _ _ _ _ _ _ _ _ _ _ _ _ _ _ _ _ _ _ _ _ _ _ _ _ _ _ _ _ _ _ _ _ _ _ _ _ _ _ _ _ _ _ _ _ _ _ _ _ _ _ _ _ _ _ _ _ _ _ _ _ _ _ _ _ _ _ _ _ _ _ _ _ _ _ _ _ _ _ _ _ _ _ _ _ _ _ _ _ _ _ _ _ _ _ _ _ _ _ _ _ _ _ _ _ _ _ _ _ _ _ _ _ _ _ _ _ _ _ _ _ _ _ _ _ _ _ _ _ _ _ _ _ _ _ _ _ _ _ _ _ _ _ _ _ _ _ _ _ _ _ _ _ _ _ _ _ _ _ _ _ _ _ _ _ _ _ _ _ _ _ _ _ _ _ _ _ _ _ _ _ _ _ _ _ _ _ _ _ _ _ _ _ _ _ _ _ _ _ _ _ _ _ _ _ _ _ _ _ _
end Go.Proofs.YbulkcelaGreatDoor
