/-
  LawS4030CPieces: one row of the history (seat b4030aZD).
-/
import Derived.Test.YbulkcelaGreatDoorLawS2
namespace Go.Proofs.YbulkcelaGreatDoor
open Go.RowKit Go.MapKept Go.Lib Go.Shelf Go.Maps Go.Sort

noncomputable def lawB2 : Code := (Ybaz.f3.body.bind (fromIn 26)).getD .skip

set_option linter.unusedSimpArgs false in
set_option maxRecDepth 100000 in
set_option maxHeartbeats 4000000 in
theorem law_B2 (n len i rb : Nat) (V : Nat → Nat) (key C : Nat → Int) (kv cv : Value) (mp : Option Nat) (k : Int) (u0 : Value) (wB wr W : World) (hn : n ≤ 300) (hi : i < n) (hk : key i = k) (hC : ∀ j, (C j).natAbs ≤ 2147483648) (h : L2 wB n len V key C i kv cv wr) (hb : Below wr.heap.size wr W) (hv : VisR W V len (.map mp) (key i)) (hrl : wr.heap.size ≤ rb) (hrb : W.heap[rb]? = some (.cells #[u0, .int .i32 (C i)] 47 (0, 0)))
    (Q : Exit → Act → World → Prop) (c0 c1 c2 c3 c4 c5 c6 c7 c8 c9 c10 c11 c12 c13 c14 c15 c16 c22 c25 c26 c27 c28 c29 c30 c31 c32 c33 c34 c35 c36 c37 c38 c39 c40 c41 c42 c43 c44 c45 c46 c47 c48 c49 c50 c51 c52 c53 c54 c55 c56 c57 c58 c59 c60 c61 c62 c63 c64 c65 c66 c67 c68 c69 c70 c71 c72 c73 c74 c75 c76 c77 c78 c79 c80 c81 c82 c83 c84 c85 c86 c87 c88 c89 c90 c91 c92 c93 c94 c95 c96 c97 c98 c99 c100 c101 c102 c103 c104 c105 c106 c107 c108 c109 c110 c111 c112 c113 c114 c115 c116 c117 c118 c119 c120 c121 c122 c123 c124 c125 c126 c127 c128 c129 c130 c131 c132 c133 c134 c135 c136 c137 c138 c139 c140 c141 c142 c143 c144 c145 c146 c147 c148 c149 c150 c151 c152 c153 c154 c155 c156 c157 c158 c159 c160 c161 c162 c163 c164 c165 c166 c167 c168 c169 c170 c171 c172 c173 c174 c175 c176 c177 c178 c179 c180 c181 c182 c183 c184 c185 c186 c187 c188 c189 c190 c191 c192 c193 c194 c195 c196 c197 c198 c199 c200 c201 c202 c203 c204 c205 c206 c207 c208 c209 c210 c211 c212 c213 c214 c215 c216 c217 c218 c219 c220 c221 c222 c223 c224 c225 c226 c227 c228 c229 c230 c231 c232 c233 c234 c235 c236 c237 c238 c239 c240 c241 c242 c243 c244 c245 c246 c247 c248 c249 c250 c251 c252 c253 c254 c255 c256 c257 c258 c259 c260 c261 c262 c263 c264 c265 c266 c267 c268 c269 c270 c271 c272 c273 c274 c275 c276 c277 c278 c279 c280 c281 c282 c283 c284 c285 c286 c287 c288 c289 c290 c291 c292 c293 c294 c295 c296 c297 c298 c299 c300 c301 c302 c303 c304 c305 c306 c307 c308 c309 c310 c311 c312 c313 c314 c315 c316 c317 c318 c319 c320 c321 c322 c323 c324 c325 c326 : Value) (hQ : ∀ (kv' cv' : Value) (w' : World) (e25 e114 e115 e116 e117 e118 e119 e120 e121 e122 e123 e124 e125 e126 e127 e128 e129 e130 e131 e132 e133 e134 e135 e136 e137 e138 e139 e140 e141 e142 e143 e144 : Value), L2 wB n len V key C (i + 1) kv' cv' w' → Q .normal ⟨#[c0, c1, c2, c3, c4, c5, c6, c7, c8, c9, c10, c11, c12, c13, c14, c15, c16, .slice (some ⟨wB.heap.size, 0, none⟩) n n, kv', cv', .int .i64 (i : Nat), .pointer (some ⟨rb, 0, none⟩), c22, .map mp, .int .i64 k, e25, c26, c27, c28, c29, c30, c31, c32, c33, c34, c35, c36, c37, c38, c39, c40, c41, c42, c43, c44, c45, c46, c47, c48, c49, c50, c51, c52, c53, c54, c55, c56, c57, c58, c59, c60, c61, c62, c63, c64, c65, c66, c67, c68, c69, c70, c71, c72, c73, c74, c75, c76, c77, c78, c79, c80, c81, c82, c83, c84, c85, c86, c87, c88, c89, c90, c91, c92, c93, c94, c95, c96, c97, c98, c99, c100, c101, c102, c103, c104, c105, c106, c107, c108, c109, c110, c111, c112, c113, e114, e115, e116, e117, e118, e119, e120, e121, e122, e123, e124, e125, e126, e127, e128, e129, e130, e131, e132, e133, e134, e135, e136, e137, e138, e139, e140, e141, e142, e143, e144, c145, c146, c147, c148, c149, c150, c151, c152, c153, c154, c155, c156, c157, c158, c159, c160, c161, c162, c163, c164, c165, c166, c167, c168, c169, c170, c171, c172, c173, c174, c175, c176, c177, c178, c179, c180, c181, c182, c183, c184, c185, c186, c187, c188, c189, c190, c191, c192, c193, c194, c195, c196, c197, c198, c199, c200, c201, c202, c203, c204, c205, c206, c207, c208, c209, c210, c211, c212, c213, c214, c215, c216, c217, c218, c219, c220, c221, c222, c223, c224, c225, c226, c227, c228, c229, c230, c231, c232, c233, c234, c235, c236, c237, c238, c239, c240, c241, c242, c243, c244, c245, c246, c247, c248, c249, c250, c251, c252, c253, c254, c255, c256, c257, c258, c259, c260, c261, c262, c263, c264, c265, c266, c267, c268, c269, c270, c271, c272, c273, c274, c275, c276, c277, c278, c279, c280, c281, c282, c283, c284, c285, c286, c287, c288, c289, c290, c291, c292, c293, c294, c295, c296, c297, c298, c299, c300, c301, c302, c303, c304, c305, c306, c307, c308, c309, c310, c311, c312, c313, c314, c315, c316, c317, c318, c319, c320, c321, c322, c323, c324, c325, c326], []⟩ w') :
    lawB2.wp Ybaz.prog Q ⟨#[c0, c1, c2, c3, c4, c5, c6, c7, c8, c9, c10, c11, c12, c13, c14, c15, c16, .slice (some ⟨wB.heap.size, 0, none⟩) n n, kv, cv, .int .i64 (i : Nat), .pointer (some ⟨rb, 0, none⟩), c22, .map mp, .int .i64 k, c25, c26, c27, c28, c29, c30, c31, c32, c33, c34, c35, c36, c37, c38, c39, c40, c41, c42, c43, c44, c45, c46, c47, c48, c49, c50, c51, c52, c53, c54, c55, c56, c57, c58, c59, c60, c61, c62, c63, c64, c65, c66, c67, c68, c69, c70, c71, c72, c73, c74, c75, c76, c77, c78, c79, c80, c81, c82, c83, c84, c85, c86, c87, c88, c89, c90, c91, c92, c93, c94, c95, c96, c97, c98, c99, c100, c101, c102, c103, c104, c105, c106, c107, c108, c109, c110, c111, c112, c113, c114, c115, c116, c117, c118, c119, c120, c121, c122, c123, c124, c125, c126, c127, c128, c129, c130, c131, c132, c133, c134, c135, c136, c137, c138, c139, c140, c141, c142, c143, c144, c145, c146, c147, c148, c149, c150, c151, c152, c153, c154, c155, c156, c157, c158, c159, c160, c161, c162, c163, c164, c165, c166, c167, c168, c169, c170, c171, c172, c173, c174, c175, c176, c177, c178, c179, c180, c181, c182, c183, c184, c185, c186, c187, c188, c189, c190, c191, c192, c193, c194, c195, c196, c197, c198, c199, c200, c201, c202, c203, c204, c205, c206, c207, c208, c209, c210, c211, c212, c213, c214, c215, c216, c217, c218, c219, c220, c221, c222, c223, c224, c225, c226, c227, c228, c229, c230, c231, c232, c233, c234, c235, c236, c237, c238, c239, c240, c241, c242, c243, c244, c245, c246, c247, c248, c249, c250, c251, c252, c253, c254, c255, c256, c257, c258, c259, c260, c261, c262, c263, c264, c265, c266, c267, c268, c269, c270, c271, c272, c273, c274, c275, c276, c277, c278, c279, c280, c281, c282, c283, c284, c285, c286, c287, c288, c289, c290, c291, c292, c293, c294, c295, c296, c297, c298, c299, c300, c301, c302, c303, c304, c305, c306, c307, c308, c309, c310, c311, c312, c313, c314, c315, c316, c317, c318, c319, c320, c321, c322, c323, c324, c325, c326], []⟩ W := by
  have hAQ : Aside (∀ (kv' cv' : Value) (w' : World) (e25 e114 e115 e116 e117 e118 e119 e120 e121 e122 e123 e124 e125 e126 e127 e128 e129 e130 e131 e132 e133 e134 e135 e136 e137 e138 e139 e140 e141 e142 e143 e144 : Value), L2 wB n len V key C (i + 1) kv' cv' w' → Q .normal ⟨#[c0, c1, c2, c3, c4, c5, c6, c7, c8, c9, c10, c11, c12, c13, c14, c15, c16, .slice (some ⟨wB.heap.size, 0, none⟩) n n, kv', cv', .int .i64 (i : Nat), .pointer (some ⟨rb, 0, none⟩), c22, .map mp, .int .i64 k, e25, c26, c27, c28, c29, c30, c31, c32, c33, c34, c35, c36, c37, c38, c39, c40, c41, c42, c43, c44, c45, c46, c47, c48, c49, c50, c51, c52, c53, c54, c55, c56, c57, c58, c59, c60, c61, c62, c63, c64, c65, c66, c67, c68, c69, c70, c71, c72, c73, c74, c75, c76, c77, c78, c79, c80, c81, c82, c83, c84, c85, c86, c87, c88, c89, c90, c91, c92, c93, c94, c95, c96, c97, c98, c99, c100, c101, c102, c103, c104, c105, c106, c107, c108, c109, c110, c111, c112, c113, e114, e115, e116, e117, e118, e119, e120, e121, e122, e123, e124, e125, e126, e127, e128, e129, e130, e131, e132, e133, e134, e135, e136, e137, e138, e139, e140, e141, e142, e143, e144, c145, c146, c147, c148, c149, c150, c151, c152, c153, c154, c155, c156, c157, c158, c159, c160, c161, c162, c163, c164, c165, c166, c167, c168, c169, c170, c171, c172, c173, c174, c175, c176, c177, c178, c179, c180, c181, c182, c183, c184, c185, c186, c187, c188, c189, c190, c191, c192, c193, c194, c195, c196, c197, c198, c199, c200, c201, c202, c203, c204, c205, c206, c207, c208, c209, c210, c211, c212, c213, c214, c215, c216, c217, c218, c219, c220, c221, c222, c223, c224, c225, c226, c227, c228, c229, c230, c231, c232, c233, c234, c235, c236, c237, c238, c239, c240, c241, c242, c243, c244, c245, c246, c247, c248, c249, c250, c251, c252, c253, c254, c255, c256, c257, c258, c259, c260, c261, c262, c263, c264, c265, c266, c267, c268, c269, c270, c271, c272, c273, c274, c275, c276, c277, c278, c279, c280, c281, c282, c283, c284, c285, c286, c287, c288, c289, c290, c291, c292, c293, c294, c295, c296, c297, c298, c299, c300, c301, c302, c303, c304, c305, c306, c307, c308, c309, c310, c311, c312, c313, c314, c315, c316, c317, c318, c319, c320, c321, c322, c323, c324, c325, c326], []⟩ w') := hQ
  obtain ⟨hold, hX⟩ := h.lay hi hb hv
  have hltB := h.lt
  have hbs := hb.size
  obtain ⟨o0, p0, q0⟩ := hold 0 (by omega)
  obtain ⟨o1, p1, q1⟩ := hold 1 (by omega)
  obtain ⟨o2, p2, q2⟩ := hold 2 (by omega)
  obtain ⟨o3, p3, q3⟩ := hold 3 (by omega)
  obtain ⟨o4, p4, q4⟩ := hold 4 (by omega)
  simp only [Nat.add_zero] at p0 q0
  have r1 : W.cell? ⟨rb, 1, none⟩ = some (.int .i32 (C i)) := Joins.cell_of_block hrb 1
  obtain ⟨W1, hW1⟩ : ∃ W1, W.setCells wB.heap.size (i * 5) [.int .u64 0, .int .i64 0, .pointer none, .int .i64 (C i), .map mp] = W1 := ⟨_, rfl⟩
  rw [hW1] at hX
  have hrbne : rb ≠ wB.heap.size := by omega
  have hrlt : rb < W.heap.size := (Array.getElem?_eq_some_iff.1 hrb).1
  have hrb1 : W1.heap[rb]? = some (.cells #[u0, .int .i32 (C i)] 47 (0, 0)) := by
    obtain ⟨hs, b1, _⟩ := (h.later hb).blk
    obtain ⟨_, hg⟩ := setCells_low (b := wB.heap.size) (t := 51) [.int .u64 0, .int .i64 0, .pointer none, .int .i64 (C i), .map mp] W (i * 5) hs b1
    rw [← hW1, hg.block rb hrlt (fun e => hrbne (by injection e))]
    exact hrb
  have hCi := hC i
  have hwc : IntKind.i64.wrap (C i) = C i := (IntWalk.i64_left _).trans (by unfold wrap64; omega)
  have hii : (i : Int) < (n : Int) := by omega
  have hAC : Aside (∀ j, (C j).natAbs ≤ 2147483648) := hC
  have hAX : Aside (L2x wB n len V key C i kv cv (hist key C i).1 (hist key C i).2 W1) := hX
  have hAW : Aside (W.setCells wB.heap.size (i * 5) [.int .u64 0, .int .i64 0, .pointer none, .int .i64 (C i), .map mp] = W1) := hW1
  have hhl := hist_le key C i
  have hidx := index7 hX.kk (by omega) k
  clear hQ h hb hv hX hold hC hrb hW1
  conv => arg 2; whnf
  refine wp_seq_k fun K1 hK1 => ?_
  have hK1' : Aside (∀ (a : Act) (w : World), _ → K1 a w) := hK1
  clear hK1
  obtain ⟨ci, hci⟩ : ∃ ci, C i = ci := ⟨_, rfl⟩
  rw [hci] at r1 hwc
  go_wp2
  refine hK1'.out _ _ ?_
  have hW1n : ((((W.setCell ⟨wB.heap.size, i * 5, none⟩ (.int .u64 0)).setCell ⟨wB.heap.size, i * 5 + 1, none⟩ (.int .i64 0)).setCell ⟨wB.heap.size, i * 5 + 2, none⟩ (.pointer none)).setCell ⟨wB.heap.size, i * 5 + 3, none⟩ (.int .i64 ci)).setCell ⟨wB.heap.size, i * 5 + 4, none⟩ (.map mp) = W1 := by rw [← hci]; exact hAW.out
  rw [hW1n]
  have r11 : W1.cell? ⟨rb, 1, none⟩ = some (.int .i32 ci) := by rw [← hci]; exact Joins.cell_of_block hrb1 1
  have hCci : ci.natAbs ≤ 2147483648 := by rw [← hci]; exact hCi
  have hsmall := hist_small key C 2147483648 hAC.out i
  have hAn : Aside (C i = ci ∧ key i = k) := ⟨hci, hk⟩
  clear p0 p1 p2 p3 p4 q0 q1 q2 q3 q4 r1 hwc hW1n hAW hK1' hci hk hCi
  have hhist : hist key C (i + 1) = if k ∈ (hist key C i).1 then ((hist key C i).1, (hist key C i).2.set ((hist key C i).1.idxOf k) ((hist key C i).2.getD ((hist key C i).1.idxOf k) 0 + ci)) else ((hist key C i).1 ++ [k], (hist key C i).2 ++ [ci]) := by
    show histStep (hist key C i) (key i, C i) = _
    rw [hAn.out.1, hAn.out.2]
    rfl
  have hdl := hist_len key C i
  have hlo := hAX.out.lt
  generalize (hist key C i).1 = KL at *
  generalize (hist key C i).2 = DL at *
  have hbig : ∀ z ∈ DL, z.natAbs < 2251799813685248 := fun z hz => by
    have h1 := hsmall z hz
    have h2 : i * 2147483648 ≤ 300 * 2147483648 := Nat.mul_le_mul_right _ (by omega)
    omega
  by_cases hin : k ∈ KL
  · rw [if_pos hin] at hidx hhist
    have hjl := List.idxOf_lt_length_of_mem hin
    obtain ⟨j, hj⟩ : ∃ j, KL.idxOf k = j := ⟨_, rfl⟩
    rw [hj] at hidx hhist hjl
    obtain ⟨cb, cc, rfl⟩ := Joins.ownsRow_form hAX.out.cc (by omega)
    obtain ⟨x, hx⟩ : ∃ x, DL.getD j 0 = x := ⟨_, rfl⟩
    rw [hx] at hhist
    have hxb : x.natAbs < 2251799813685248 := by rw [← hx]; exact hbig _ (getD_mem (by omega))
    obtain ⟨_, hcbl, hcell⟩ := owns_cell hAX.out.cc (j := j) (u := .float .f64 (fi x)) (by rw [List.getElem?_map, ← hx]; simp [List.getD, show j < DL.length by omega])
    have hfz : W1.frozen? ⟨cb, j, none⟩ = false := by
      obtain ⟨_, cu, hcu⟩ := own_block hAX.out.cc (g := cb) rfl
      exact Joins.unfrozen_of_block hcu j
    have hend := (hAX.out.bump (j := j) (x + ci)).next hhist
    have hAe : Aside (L2 wB n len V key C (i + 1) kv (.slice (some ⟨cb, 0, none⟩) DL.length cc) (W1.drew.setCell ⟨cb, j, none⟩ (.float .f64 (fi (x + ci))))) := hend
    have hj0 : ¬ ((j : Int) < 0) := by omega
    have hjd : j < DL.length := by omega
    clear hend hhist hx hj hsmall hbig hdl
    go_wp2_with (go_at_call 7; refine hidx.mono ?_; rintro e w2 ⟨rfl, hw2⟩; obtain rfl := hw2.symm)
    refine law_r32 cb rb DL.length cc j x ci _ hjd hcell hfz r11 hxb (by omega) _ _ _ _ _ _ _ _ _ _ _ _ _ _ _ _ _ _ _ _ _ _ _ _ _ _ _ _ _ _ _ _ _ _ _ _ _ _ _ _ _ _ _ _ _ _ _ _ _ _ _ _ _ _ _ _ _ _ _ _ _ _ _ _ _ _ _ _ _ _ _ _ _ _ _ _ _ _ _ _ _ _ _ _ _ _ _ _ _ _ _ _ _ _ _ _ _ _ _ _ _ _ _ _ _ _ _ _ _ _ _ _ _ _ _ _ _ _ _ _ _ _ _ _ _ _ _ _ _ _ _ _ _ _ _ _ _ _ _ _ _ _ _ _ _ _ (fun e136 e137 e138 e139 e140 e141 e142 e143 e144 => ?_)
    exact hAQ.out _ _ _ _ _ _ _ _ _ _ _ _ _ _ _ _ _ _ _ _ _ _ _ _ _ _ _ _ _ _ _ _ _ _ _ hAe.out
  · rw [if_neg hin] at hidx hhist
    obtain ⟨kp, kc, rfl⟩ := own_form hAX.out.kk
    obtain ⟨cp, cc, rfl⟩ := own_form hAX.out.cc
    obtain ⟨i3, hi3, hz30, hz31, hz32⟩ := info_parts Ybaz.info3
    have H3 : Aside (Ybaz.prog.info? 3 = some i3 ∧ i3.zero = some (.int .i64 0) ∧ i3.size = 1 ∧ i3.bytes = 8) := ⟨hi3, hz30, hz31, hz32⟩
    obtain ⟨i53, hi53, hz530, hz531, hz532⟩ := info_parts Ybaz.info53
    have H53 : Aside (Ybaz.prog.info? 53 = some i53 ∧ i53.zero = some (.float .f64 0) ∧ i53.size = 1 ∧ i53.bytes = 8) := ⟨hi53, hz530, hz531, hz532⟩
    clear hi3 hz30 hz31 hz32 hi53 hz530 hz531 hz532
    have hkk := hAX.out.kk
    have hAh : Aside (hist key C (i + 1) = (KL ++ [k], DL ++ [ci])) := hhist
    have hm10 : (-1 : Int) < 0 := by omega
    have hsz1 : wB.heap.size + 1 ≤ W1.heap.size := by omega
    have hAr : Aside (W1.heap[rb]? = some (.cells #[u0, .int .i32 ci] 47 (0, 0))) := by
      show W1.heap[rb]? = _
      rw [← hAn.out.1]; exact hrb1
    have hAd : Aside (DL.length = KL.length) := hdl
    have hKl : KL.length ≤ 300 := by omega
    clear hhist hsmall hbig hrb1 hdl
    go_wp2_with (first | (go_at_call 7; refine hidx.mono ?_; rintro e w2 ⟨rfl, hw2⟩; obtain rfl := hw2.symm) | (at_builtin; refine Veil.off ?_))
    unfold Veil
    refine wpList_append_lies _ rfl (.tmp 129) (.tmp 131) 44 rfl (wB.heap.size + 1) 3 i3 (.int .i64 0) 1 8 Ybaz.underlying44 H3.out.1 H3.out.2.1 H3.out.2.2.1 H3.out.2.2.2 rfl (by decide) (.slice kp KL.length kc) KL.length _ rfl (hkk.alloc _) ⟨W1.heap.size, 0, none⟩ 1 1 [.int .i64 k] rfl rfl ?a1 ?a2 (by decide) ?a3 ?a4 ?a5 _ rfl ?_
    case a1 => exact cell_one_new _ _ _
    case a2 => intro u hu; simp at hu; subst hu; rfl
    case a3 => unfold maxLen; omega
    case a4 => omega
    case a5 => simp; omega
    intro g cap w3 hown3 hg3 _ _
    have hX3 : L2x wB n len V key C i (.slice (some ⟨g, 0, none⟩) (KL.length + 1) cap) (.slice cp DL.length cc) (KL ++ [k]) DL w3 := hAX.out.pushK (grown_trans (grown_alloc _ _ _) hg3) (by rw [List.length_append, List.map_append]; exact hown3)
    have hr3 : w3.heap[rb]? = some (.cells #[u0, .int .i32 ci] 47 (0, 0)) := by
      refine (hg3.block rb ?_ ?_).trans ((Below.heap_alloc _ _ _ (Array.getElem?_eq_some_iff.1 hAr.out).1).trans hAr.out)
      · have := (Array.getElem?_eq_some_iff.1 hAr.out).1
        simp; omega
      · intro e
        obtain ⟨_, cu, hcu⟩ := own_block hkk e.symm
        rw [hAr.out] at hcu
        cases hcu
    have hA3 : Aside (L2x wB n len V key C i (.slice (some ⟨g, 0, none⟩) (KL.length + 1) cap) (.slice cp DL.length cc) (KL ++ [k]) DL w3 ∧ w3.heap[rb]? = some (.cells #[u0, .int .i32 ci] 47 (0, 0))) := ⟨hX3, hr3⟩
    have hcc := hX3.cc
    have hsz3 := hX3.lt
    clear hX3 hr3 hown3 hg3 hkk hidx
    go_wp2_with (at_builtin; refine Veil.off ?_)
    unfold Veil
    refine wpList_append_lies _ rfl (.tmp 133) (.tmp 134) 45 rfl (wB.heap.size + 1) 53 i53 (.float .f64 0) 1 8 Ybaz.underlying45 H53.out.1 H53.out.2.1 H53.out.2.2.1 H53.out.2.2.2 rfl (by decide) (.slice cp DL.length cc) DL.length _ rfl (hcc.alloc _) ⟨w3.heap.size, 0, none⟩ 1 1 [.float .f64 0] rfl rfl ?a1 ?a2 (by decide) ?a3 ?a4 ?a5 _ rfl ?_
    case a1 => exact cell_one_new _ _ _
    case a2 => intro u hu; simp at hu; subst hu; rfl
    case a3 => have := hAd.out; unfold maxLen; omega
    case a4 => have := hAd.out; omega
    case a5 => simp; omega
    intro cb c5 w4 hown4 hg4 _ _
    obtain ⟨hX3, hr3⟩ := hA3.out
    have hX4 : L2x wB n len V key C i (.slice (some ⟨g, 0, none⟩) (KL.length + 1) cap) (.slice (some ⟨cb, 0, none⟩) (DL.length + 1) c5) (KL ++ [k]) (DL ++ [0]) w4 := hX3.pushC (grown_trans (grown_alloc _ _ _) hg4) (by
      rw [List.length_append, List.map_append]
      have hz : ([0] : List Int).map (fun x => Value.float .f64 (fi x)) = [.float .f64 0] := by simp [fi_zero]
      rw [hz]
      exact hown4)
    have hr4 : w4.cell? ⟨rb, 1, none⟩ = some (.int .i32 ci) := by
      refine Joins.cell_of_block ((hg4.block rb ?_ ?_).trans ((Below.heap_alloc _ _ _ (Array.getElem?_eq_some_iff.1 hr3).1).trans hr3)) 1
      · have := (Array.getElem?_eq_some_iff.1 hr3).1
        simp; omega
      · intro e
        obtain ⟨_, cu, hcu⟩ := own_block hcc e.symm
        rw [hr3] at hcu
        cases hcu
    have hd := hAd.out
    have hcell : w4.cell? ⟨cb, KL.length, none⟩ = some (.float .f64 (fi 0)) := by
      obtain ⟨_, _, h⟩ := owns_cell (n := DL.length + 1) (xs := (DL ++ [0]).map fun x => .float .f64 (fi x)) (by have := hX4.cc; simpa using this) (j := KL.length) (u := .float .f64 (fi 0)) (by rw [List.getElem?_map, ← hd, List.getElem?_append_right (Nat.le_refl _)]; simp)
      exact h
    have hfz : w4.frozen? ⟨cb, KL.length, none⟩ = false := by
      obtain ⟨_, cu, hcu⟩ := own_block hX4.cc (g := cb) rfl
      exact Joins.unfrozen_of_block hcu _
    have hend : L2 wB n len V key C (i + 1) (.slice (some ⟨g, 0, none⟩) (KL.length + 1) cap) (.slice (some ⟨cb, 0, none⟩) (DL.length + 1) c5) (w4.drew.setCell ⟨cb, KL.length, none⟩ (.float .f64 (fi (0 + ci)))) := by
      have hX4' : L2x wB n len V key C i (.slice (some ⟨g, 0, none⟩) (KL.length + 1) cap) (.slice (some ⟨cb, 0, none⟩) (DL ++ [0]).length c5) (KL ++ [k]) (DL ++ [0]) w4 := by simpa using hX4
      have hb := hX4'.bump (j := KL.length) (0 + ci)
      have e1 : (DL ++ [0]).set KL.length (0 + ci) = DL ++ [ci] := by
        rw [List.set_append_right _ _ (by omega), ← hd]
        simp
      rw [e1] at hb
      have hn := hb.next hAh.out
      simpa using hn
    have hAe : Aside (L2 wB n len V key C (i + 1) (.slice (some ⟨g, 0, none⟩) (KL.length + 1) cap) (.slice (some ⟨cb, 0, none⟩) (DL.length + 1) c5) (w4.drew.setCell ⟨cb, KL.length, none⟩ (.float .f64 (fi (0 + ci))))) := hend
    have hld : KL.length < DL.length + 1 := by omega
    clear hend hX4 hX3 hr3 hown4 hg4 hcc hd
    go_wp2
    refine law_r32 cb rb (DL.length + 1) c5 KL.length 0 ci w4 hld hcell hfz hr4 (by decide) (by omega) _ _ _ _ _ _ _ _ _ _ _ _ _ _ _ _ _ _ _ _ _ _ _ _ _ _ _ _ _ _ _ _ _ _ _ _ _ _ _ _ _ _ _ _ _ _ _ _ _ _ _ _ _ _ _ _ _ _ _ _ _ _ _ _ _ _ _ _ _ _ _ _ _ _ _ _ _ _ _ _ _ _ _ _ _ _ _ _ _ _ _ _ _ _ _ _ _ _ _ _ _ _ _ _ _ _ _ _ _ _ _ _ _ _ _ _ _ _ _ _ _ _ _ _ _ _ _ _ _ _ _ _ _ _ _ _ _ _ _ _ _ _ _ _ _ _ (fun e136 e137 e138 e139 e140 e141 e142 e143 e144 => ?_)
    exact hAQ.out _ _ _ _ _ _ _ _ _ _ _ _ _ _ _ _ _ _ _ _ _ _ _ _ _ _ _ _ _ _ _ _ _ _ _ hAe.out
end Go.Proofs.YbulkcelaGreatDoor
