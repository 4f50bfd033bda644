/-
  LawS4037CInstall: the law's look at the peer (seat b4037aD).
-/
import Derived.Test.YbulkceouDoorLawE
import Derived.ChangeKeysEq
import Derived.Lib.Builder
namespace Go.Proofs.YbulkceouDoor
open Go.RowKit Go.Shelf

theorem info23 : (Ybad.prog.info? 23).map (fun i => (i.zero, i.size, i.bytes)) = some (some (.int .u64 0), 1, 8) := by kernel_rfl
theorem cells23 : Ybad.prog.cellsOf 23 = 1 := by kernel_rfl
set_option maxRecDepth 100000 in
/-- A set equals itself. -/
theorem eq26 (a b : Int) (W : World) : (Op.equalIn 10000 26 (.agg #[.int .u64 a, .int .u64 b]) (.agg #[.int .u64 a, .int .u64 b])).run Ybad.prog W = .ok true W := by
  obtain ⟨i, hi, _, hs, _⟩ := info_parts info23
  rw [show (10000 : Nat) = 9998 + 1 + 1 from rfl, run_equalIn_array W (9998 + 1) _ _ Ybad.underlying26 hi, cells23]
  simp [Op.eqItems, List.range, List.range.loop, go_sem]

theorem pointee29 : Ybad.prog.underlying 29 = some (.pointer (Ybad.prog.pointee 29)) := by
  have e : Ybad.prog.pointee 29 = 32 := by simp [Program.pointee, Ybad.underlying29]
  rw [e]; exact Ybad.underlying29
theorem neq29 (q : Nat) (w : World) : (binOp .neq 29 (.pointer (some ⟨q, 0, none⟩)) (.pointer (some ⟨q, 0, none⟩))).run Ybad.prog w = .ok (.bool false) w := by
  have h : ∃ j, Ybad.prog.info? 32 = some j := Option.isSome_iff_exists.1 (by kernel_rfl)
  obtain ⟨j, hj⟩ := h
  exact Lib.run_neq_ptr_same w ⟨q, 0, none⟩ Ybad.underlying29 hj
theorem neq29n (w : World) : (binOp .neq 29 (.pointer none) (.pointer none)).run Ybad.prog w = .ok (.bool false) w := run_neq_pointer_nil (P := Ybad.prog) w 29 none pointee29

noncomputable def lD : Code := (Ybad.f3.body.bind (fromR 48)).getD .skip

set_option maxRecDepth 100000 in
set_option maxHeartbeats 1000000 in
theorem law_D (N n nb s cm tb g cap L pc K gc nwb pb chb : Nat) (tn tm : Int) (nm ps : Nat → ByteArray) (pa ga : Option Addr) (w0 we : World)
    (hn : n ≤ 64) (hs : s < n) (hcm : cm < 2 ^ n) (hK : K = (mem cm).length) (hL : L ≤ 1024) (hN : N ≤ we.heap.size) (hnb : nb < we.heap.size) (htb : tb < we.heap.size)
    (hev : we.rangeAt g (L * 15) (evCells (nm s) tn tm (.slice ga K gc)).toList)
    (t0 : we.cell? ⟨tb, 0, none⟩ = some (.int .u64 tn)) (t1 : we.cell? ⟨tb, 1, none⟩ = some (.int .i64 tm))
    (cells : ∀ j x, (mem cm)[j]? = some x → ∃ g, ga = some ⟨g, 0, none⟩ ∧ g < we.heap.size ∧ we.cell? ⟨g, j, none⟩ = some (.string (nm x)))
    (hnm : ∀ k, k < n → we.cell? ⟨nb, k, none⟩ = some (.string (nm k)))
    (hpre : ∀ j, j < L → ∃ bb oo, pa = some ⟨bb, oo, none⟩ ∧ we.cell? ⟨bb, oo + j, none⟩ = some (.string (ps j)) ∧ we.cell? ⟨g, j * 15 + 1, none⟩ = some (.string (ps j)))
    (Hfin : Aside (Below N w0 we))
    (n0 : we.cell? ⟨nwb, 0, none⟩ = some (.int .u64 cm)) (n1 : we.cell? ⟨nwb, 1, none⟩ = some (.int .u64 0))
    (p19 : we.cell? ⟨pb, 19, none⟩ = some (.int .u64 tn)) (p20 : we.cell? ⟨pb, 20, none⟩ = some (.int .i64 tm)) (p21 : we.cell? ⟨pb, 21, none⟩ = some (.int .u64 cm)) (p22 : we.cell? ⟨pb, 22, none⟩ = some (.int .u64 0)) (p23 : we.cell? ⟨pb, 23, none⟩ = some (.pointer (some ⟨chb, 0, none⟩))) (p24 : we.cell? ⟨pb, 24, none⟩ = some (.pointer none)) (c0 c1 c2 c4 c5 c6 c8 c9 c10 c11 c12 c13 c14 c15 c16 c19 c20 c22 c24 c26 c27 c30 c31 c33 c34 c35 c36 c37 c38 c39 c40 c41 c42 c43 c44 c45 c46 c47 c48 c49 c50 c51 c52 c53 c54 c55 c56 c57 c58 c59 c60 c61 c62 c63 c64 c65 c66 c67 c68 c69 c70 c71 c72 c73 c74 c75 c76 c77 c78 c79 c80 c81 c82 c83 c84 c85 c86 c87 c88 c89 c90 c91 c92 c93 c94 c95 c96 c97 c98 c99 c100 c101 c102 c103 c104 c105 c106 c107 c108 c109 c110 c111 c112 c113 c114 c115 c116 c117 c118 c119 c120 c121 c122 c123 c124 c125 c126 c127 c128 c129 c130 c131 c132 c133 c134 c135 c136 c137 c138 c139 c140 c141 c142 c143 c144 c145 c146 c147 c148 c149 c150 c151 c152 c153 c154 c155 c156 c157 c158 c159 c160 c161 c162 c163 c164 c165 c166 c167 c168 c169 c170 c171 c172 c173 c174 c175 c176 c177 c178 c179 c180 c181 c182 c183 c184 c185 c186 c187 c188 c189 c190 c191 c192 c193 c194 c195 c196 c197 c198 c199 c200 c201 c202 c203 c204 c205 c206 c207 c208 c209 c210 c211 c212 c213 c214 c215 c216 c217 c218 c219 c220 c221 c222 c223 c224 c225 c226 c227 c228 c229 c230 c231 c232 c233 c234 c235 c236 c237 c238 c239 c240 c241 c242 c243 c244 c245 c246 c247 c248 c249 c250 c251 c252 c253 c254 c255 c256 c257 c258 c259 c260 c261 c262 c263 c264 c265 c266 c267 c268 c269 c270 c271 c272 c273 c274 c275 c276 c277 c278 c279 c280 c281 c282 c283 c284 c285 c286 c287 c288 c289 c290 c291 c292 c293 c294 c295 c296 c297 c298 c299 c300 c301 c302 c303 c304 c305 c306 c307 c308 c309 c310 c311 c312 c313 : Value) :
    lD.wp Ybad.prog (bodyPost Ybad.prog Ybad.f3 fun e w' => e = .returned (.bool true) ∧ Below N w0 w') ⟨#[c0, c1, c2, .int .u64 cm, c4, c5, c6, .slice pa L pc, c8, c9, c10, c11, c12, c13, c14, c15, c16, .int .i64 n, .slice (some ⟨nb, 0, none⟩) n n, c19, c20, .pointer (some ⟨nwb, 0, none⟩), c22, .pointer (some ⟨tb, 0, none⟩), c24, .pointer (some ⟨chb, 0, none⟩), c26, c27, .int .i64 s, .pointer (some ⟨pb, 0, none⟩), c30, c31, .slice (some ⟨g, 0, none⟩) ((L + 1 : Nat)) cap, c33, c34, c35, c36, c37, c38, c39, c40, c41, c42, c43, c44, c45, c46, c47, c48, c49, c50, c51, c52, c53, c54, c55, c56, c57, c58, c59, c60, c61, c62, c63, c64, c65, c66, c67, c68, c69, c70, c71, c72, c73, c74, c75, c76, c77, c78, c79, c80, c81, c82, c83, c84, c85, c86, c87, c88, c89, c90, c91, c92, c93, c94, c95, c96, c97, c98, c99, c100, c101, c102, c103, c104, c105, c106, c107, c108, c109, c110, c111, c112, c113, c114, c115, c116, c117, c118, c119, c120, c121, c122, c123, c124, c125, c126, c127, c128, c129, c130, c131, c132, c133, c134, c135, c136, c137, c138, c139, c140, c141, c142, c143, c144, c145, c146, c147, c148, c149, c150, c151, c152, c153, c154, c155, c156, c157, c158, c159, c160, c161, c162, c163, c164, c165, c166, c167, c168, c169, c170, c171, c172, c173, c174, c175, c176, c177, c178, c179, c180, c181, c182, c183, c184, c185, c186, c187, c188, c189, c190, c191, c192, c193, c194, c195, c196, c197, c198, c199, c200, c201, c202, c203, c204, c205, c206, c207, c208, c209, c210, c211, c212, c213, c214, c215, c216, c217, c218, c219, c220, c221, c222, c223, c224, c225, c226, c227, c228, c229, c230, c231, c232, c233, c234, c235, c236, c237, c238, c239, c240, c241, c242, c243, c244, c245, c246, c247, c248, c249, c250, c251, c252, c253, c254, c255, c256, c257, c258, c259, c260, c261, c262, c263, c264, c265, c266, c267, c268, c269, c270, c271, c272, c273, c274, c275, c276, c277, c278, c279, c280, c281, c282, c283, c284, c285, c286, c287, c288, c289, c290, c291, c292, c293, c294, c295, c296, c297, c298, c299, c300, c301, c302, c303, c304, c305, c306, c307, c308, c309, c310, c311, c312, c313], []⟩ we := by
  conv => arg 2; whnf
  have hA : Aside (we.rangeAt g (L * 15) (evCells (nm s) tn tm (.slice ga K gc)).toList ∧ (∀ j x, (mem cm)[j]? = some x → ∃ g, ga = some ⟨g, 0, none⟩ ∧ g < we.heap.size ∧ we.cell? ⟨g, j, none⟩ = some (.string (nm x))) ∧ (∀ k, k < n → we.cell? ⟨nb, k, none⟩ = some (.string (nm k))) ∧ K = (mem cm).length ∧ (∀ j, j < L → ∃ bb oo, pa = some ⟨bb, oo, none⟩ ∧ we.cell? ⟨bb, oo + j, none⟩ = some (.string (ps j)) ∧ we.cell? ⟨g, j * 15 + 1, none⟩ = some (.string (ps j)))) := ⟨hev, cells, hnm, hK, hpre⟩
  clear hev cells hnm hK hpre
  have hq1 := eq26 cm 0
  have hq2 := neq29 chb
  have hq3 := neq29n
  go_wp2
  go_quiet (fail)
  rename_i Q1 K1 hK1 K2 hK2
  have hK1' : Aside (∀ (a : Act) (w : World), _ → K1 a w) := hK1
  clear hK1 hq1 hq2 hq3
  go_wp2
  refine hK1'.out _ _ ?_
  clear hK1'
  refine wp_seq_k fun K3 hK3 => ?_
  have hK3' : Aside (∀ (a : Act) (w : World), _ → K3 a w) := hK3
  clear hK3
  have hL1 : wrap64 ((L : Int) + 1) = ((L + 1 : Nat) : Int) := by unfold wrap64; omega
  go_wp2
  obtain ⟨a1, a4, a5, a6, a7⟩ := hA.out
  exact hK3'.out _ _ (law_E N n nb s cm tb g cap L pc K gc tn tm nm ps pa ga w0 (we.drewN nq) hn hs hcm a6 hL hN hnb htb a1 t0 t1 a4 a5 a7 (Hfin.out.trans (below_drewN _ _ _)) _ _ _ _ _ _ _ _ _ _ _ _ _ _ _ _ _ _ _ _ _ _ _ _ _ _ _ _ _ _ _ _ _ _ _ _ _ _ _ _ _ _ _ _ _ _ _ _ _ _ _ _ _ _ _ _ _ _ _ _ _ _ _ _ _ _ _ _ _ _ _ _ _ _ _ _ _ _ _ _ _ _ _ _ _ _ _ _ _ _ _ _ _ _ _ _ _ _ _ _ _ _ _ _ _ _ _ _ _ _ _ _ _ _ _ _ _ _ _ _ _ _ _ _ _ _ _ _ _ _ _ _ _ _ _ _ _ _ _ _ _ _ _ _ _ _ _ _ _ _ _ _ _ _ _ _ _ _ _ _ _ _ _ _ _ _ _ _ _ _ _ _ _ _ _ _ _ _ _ _ _ _ _ _ _ _ _ _ _ _ _ _ _ _ _ _ _ _ _ _ _ _ _ _ _ _ _ _ _ _ _ _ _ _ _ _ _ _ _ _ _ _ _ _ _ _ _ _ _ _ _ _ _ _ _ _ _ _ _ _ _ _ _ _ _ _ _ _ _ _ _ _ _ _ _ _ _ _ _ _ _ _ _ _ _ _ _ _ _ _ _ _ _ _ _ _ _ _ _ _ _ _ _ _ _ _ _ _ _ _ _ _ _ _ _ _ _ _ _ _ _ _ _ _ _ _ _)
end Go.Proofs.YbulkceouDoor
