/-
  LawS4037CInstall: the law lays its peer (seat b4037aD).
-/
import Derived.Test.YbulkceouDoorLawB
namespace Go.Proofs.YbulkceouDoor
open Go.RowKit Go.Shelf

/-- The peer as it is laid. -/
def peer0 (rb nb n s : Nat) : Array Value := #[.iface 33 (.pointer (some ⟨rb, 0, none⟩)), .slice (some ⟨nb, 0, none⟩) n n, .int .i64 s, .int .i64 0, .int .i64 0, .slice none 0 0, .bool false, .int .u64 0, .slice none 0 0, .int .i64 0, .int .i64 0, .int .i64 0, .bool false, .int .u64 0, .int .u64 0, .int .u64 0, .int .u64 0, .int .u64 0, .int .u64 0, .int .u64 0, .int .i64 0, .int .u64 0, .int .u64 0, .pointer none, .pointer none, .int .u64 0, .int .i64 0, .int .u64 0, .int .u64 0, .bool false, .bool false, .int .i64 0, .int .u64 0, .int .u64 0, .int .u64 0, .int .i64 0, .bool false, .int .u64 0, .int .u64 0, .int .u64 0, .int .u64 0, .int .u64 0, .pointer none, .slice none 0 0, .int .i64 0, .bool false]

noncomputable def lA3 : Code := (Ybad.f3.body.bind (fromR 24)).getD .skip

set_option linter.unusedSimpArgs false in
set_option maxRecDepth 100000 in
set_option maxHeartbeats 2000000 in
theorem law_A3 (N n nb s pm cm jm tb fb ob L pc nwb chb vb rb : Nat) (tn tm fn fm : Int) (nm ps : Nat → ByteArray) (pa : Option Addr) (w0 w : World)
    (hn : n ≤ 64) (hs : s < n) (hpm : pm < 2 ^ n) (hcm : cm < 2 ^ n) (hjp : ∀ i, i < 64 → jm.testBit i = true → pm.testBit i = true) (hL : L ≤ 1024) (hN0 : 0 < N)
    (hNw : N ≤ w.heap.size) (hNr : N ≤ rb) (hc : chb < w.heap.size) (hr : rb < w.heap.size) (hnb : nb < w.heap.size) (htb : tb < w.heap.size) (hnw : nwb < w.heap.size) (hfb : fb < w.heap.size) (hob : ob < w.heap.size)
    (hcr : chb ≠ rb) (hnr : nb ≠ rb) (htr : tb ≠ rb) (hwr : nwb ≠ rb)
    (hT : TabAt 0 Lib.deBruijn64tab w)
    (hrb : w.heap[rb]? = some (.cells #[.slice none 0 0, .int .i64 0] 36 (0, 0)))
    (q2 : w.cell? ⟨chb, 2, none⟩ = some (.int .u64 tn)) (q3 : w.cell? ⟨chb, 3, none⟩ = some (.int .i64 tm))
    (q4 : w.cell? ⟨chb, 4, none⟩ = some (.int .u64 cm)) (q5 : w.cell? ⟨chb, 5, none⟩ = some (.int .u64 0))
    (q6 : w.cell? ⟨chb, 6, none⟩ = some (.int .u64 jm)) (q7 : w.cell? ⟨chb, 7, none⟩ = some (.int .u64 0))
    (hnm : ∀ k, k < n → w.cell? ⟨nb, k, none⟩ = some (.string (nm k)))
    (t0 : w.cell? ⟨tb, 0, none⟩ = some (.int .u64 tn)) (t1 : w.cell? ⟨tb, 1, none⟩ = some (.int .i64 tm))
    (n0 : w.cell? ⟨nwb, 0, none⟩ = some (.int .u64 cm)) (n1 : w.cell? ⟨nwb, 1, none⟩ = some (.int .u64 0))
    (o0 : w.cell? ⟨ob, 0, none⟩ = some (.int .u64 pm)) (o1 : w.cell? ⟨ob, 1, none⟩ = some (.int .u64 0))
    (f0 : w.cell? ⟨fb, 0, none⟩ = some (.int .u64 fn)) (f1 : w.cell? ⟨fb, 1, none⟩ = some (.int .i64 fm))
    (hpre : ∀ j, j < L → ∃ bb oo, pa = some ⟨bb, oo, none⟩ ∧ bb < N ∧ w.cell? ⟨bb, oo + j, none⟩ = some (.string (ps j)))
    (Hfin : Aside (Below N w0 w)) (c0 c1 c4 c5 c6 c8 c9 c10 c11 c12 c13 c14 c15 c16 c19 c22 c29 c30 c31 c32 c33 c34 c35 c36 c37 c38 c39 c40 c41 c42 c43 c44 c45 c46 c47 c48 c49 c50 c51 c52 c53 c54 c55 c56 c57 c58 c59 c60 c61 c62 c63 c64 c65 c66 c67 c68 c69 c70 c71 c72 c73 c74 c75 c76 c77 c78 c79 c80 c81 c82 c83 c84 c85 c86 c87 c88 c89 c90 c91 c92 c93 c94 c95 c96 c97 c98 c99 c100 c101 c102 c103 c104 c105 c106 c107 c108 c109 c110 c111 c112 c113 c114 c115 c116 c117 c118 c119 c120 c121 c122 c123 c124 c125 c126 c127 c128 c129 c130 c131 c132 c133 c134 c135 c136 c137 c138 c139 c140 c141 c142 c143 c144 c145 c146 c147 c148 c149 c150 c151 c152 c153 c154 c155 c156 c157 c158 c159 c160 c161 c162 c163 c164 c165 c166 c167 c168 c169 c170 c171 c172 c173 c174 c175 c176 c177 c178 c179 c180 c181 c182 c183 c184 c185 c186 c187 c188 c189 c190 c191 c192 c193 c194 c195 c196 c197 c198 c199 c200 c201 c202 c203 c204 c205 c206 c207 c208 c209 c210 c211 c212 c213 c214 c215 c216 c217 c218 c219 c220 c221 c222 c223 c224 c225 c226 c227 c228 c229 c230 c231 c232 c233 c234 c235 c236 c237 c238 c239 c240 c241 c242 c243 c244 c245 c246 c247 c248 c249 c250 c251 c252 c253 c254 c255 c256 c257 c258 c259 c260 c261 c262 c263 c264 c265 c266 c267 c268 c269 c270 c271 c272 c273 c274 c275 c276 c277 c278 c279 c280 c281 c282 c283 c284 c285 c286 c287 c288 c289 c290 c291 c292 c293 c294 c295 c296 c297 c298 c299 c300 c301 c302 c303 c304 c305 c306 c307 c308 c309 c310 c311 c312 c313 : Value) :
    lA3.wp Ybad.prog (bodyPost Ybad.prog Ybad.f3 fun e w' => e = .returned (.bool true) ∧ Below N w0 w') ⟨#[c0, c1, .int .u64 pm, .int .u64 cm, c4, c5, c6, .slice pa L pc, c8, c9, c10, c11, c12, c13, c14, c15, c16, .int .i64 n, .slice (some ⟨nb, 0, none⟩) n n, c19, .pointer (some ⟨ob, 0, none⟩), .pointer (some ⟨nwb, 0, none⟩), c22, .pointer (some ⟨tb, 0, none⟩), .pointer (some ⟨fb, 0, none⟩), .pointer (some ⟨chb, 0, none⟩), .pointer (some ⟨vb, 0, none⟩), .pointer (some ⟨rb, 0, none⟩), .int .i64 s, c29, c30, c31, c32, c33, c34, c35, c36, c37, c38, c39, c40, c41, c42, c43, c44, c45, c46, c47, c48, c49, c50, c51, c52, c53, c54, c55, c56, c57, c58, c59, c60, c61, c62, c63, c64, c65, c66, c67, c68, c69, c70, c71, c72, c73, c74, c75, c76, c77, c78, c79, c80, c81, c82, c83, c84, c85, c86, c87, c88, c89, c90, c91, c92, c93, c94, c95, c96, c97, c98, c99, c100, c101, c102, c103, c104, c105, c106, c107, c108, c109, c110, c111, c112, c113, c114, c115, c116, c117, c118, c119, c120, c121, c122, c123, c124, c125, c126, c127, c128, c129, c130, c131, c132, c133, c134, c135, c136, c137, c138, c139, c140, c141, c142, c143, c144, c145, c146, c147, c148, c149, c150, c151, c152, c153, c154, c155, c156, c157, c158, c159, c160, c161, c162, c163, c164, c165, c166, c167, c168, c169, c170, c171, c172, c173, c174, c175, c176, c177, c178, c179, c180, c181, c182, c183, c184, c185, c186, c187, c188, c189, c190, c191, c192, c193, c194, c195, c196, c197, c198, c199, c200, c201, c202, c203, c204, c205, c206, c207, c208, c209, c210, c211, c212, c213, c214, c215, c216, c217, c218, c219, c220, c221, c222, c223, c224, c225, c226, c227, c228, c229, c230, c231, c232, c233, c234, c235, c236, c237, c238, c239, c240, c241, c242, c243, c244, c245, c246, c247, c248, c249, c250, c251, c252, c253, c254, c255, c256, c257, c258, c259, c260, c261, c262, c263, c264, c265, c266, c267, c268, c269, c270, c271, c272, c273, c274, c275, c276, c277, c278, c279, c280, c281, c282, c283, c284, c285, c286, c287, c288, c289, c290, c291, c292, c293, c294, c295, c296, c297, c298, c299, c300, c301, c302, c303, c304, c305, c306, c307, c308, c309, c310, c311, c312, c313], []⟩ w := by
  conv => arg 2; whnf
  have hB : Aside (TabAt 0 Lib.deBruijn64tab w ∧ w.heap[rb]? = some (.cells #[.slice none 0 0, .int .i64 0] 36 (0, 0)) ∧ w.cell? ⟨chb, 2, none⟩ = some (.int .u64 tn) ∧ w.cell? ⟨chb, 3, none⟩ = some (.int .i64 tm) ∧ w.cell? ⟨chb, 4, none⟩ = some (.int .u64 cm) ∧ w.cell? ⟨chb, 5, none⟩ = some (.int .u64 0) ∧ w.cell? ⟨chb, 6, none⟩ = some (.int .u64 jm) ∧ w.cell? ⟨chb, 7, none⟩ = some (.int .u64 0)) := ⟨hT, hrb, q2, q3, q4, q5, q6, q7⟩
  have hB2 : Aside ((∀ k, k < n → w.cell? ⟨nb, k, none⟩ = some (.string (nm k))) ∧ w.cell? ⟨tb, 0, none⟩ = some (.int .u64 tn) ∧ w.cell? ⟨tb, 1, none⟩ = some (.int .i64 tm) ∧ w.cell? ⟨nwb, 0, none⟩ = some (.int .u64 cm) ∧ w.cell? ⟨nwb, 1, none⟩ = some (.int .u64 0) ∧ (∀ j, j < L → ∃ bb oo, pa = some ⟨bb, oo, none⟩ ∧ bb < N ∧ w.cell? ⟨bb, oo + j, none⟩ = some (.string (ps j)))) := ⟨hnm, t0, t1, n0, n1, hpre⟩
  clear hT hrb q2 q3 q4 q5 q6 q7 hnm t0 t1 n0 n1 hpre
  refine wp_seq_k fun K1 hK1 => ?_
  have hK1' : Aside (∀ (a : Act) (w : World), _ → K1 a w) := hK1
  clear hK1
  go_wp2
  obtain ⟨W1, hW1⟩ : ∃ W1, w.alloc (.cells (peer0 rb nb n s) 53) = W1 := ⟨_, rfl⟩
  have hb1 : Below w.heap.size w W1 := by rw [← hW1]; exact (Below.refl _ _).alloc (Nat.le_refl _) _
  have hs1 : W1.heap.size = w.heap.size + 1 := by rw [← hW1]; simp
  have hpb : W1.heap[w.heap.size]? = some (.cells (peer0 rb nb n s) 53 (0, 0)) := by rw [← hW1, alloc_at, if_pos rfl]
  change K1 _ (w.alloc (.cells (peer0 rb nb n s) 53))
  rw [hW1]
  clear hW1
  refine hK1'.out _ _ ?_
  clear hK1'
  have g0 := (hb1.cell (p := ⟨ob, 0, none⟩) hob).trans o0
  have g1 := (hb1.cell (p := ⟨ob, 1, none⟩) hob).trans o1
  have g2 := (hb1.cell (p := ⟨fb, 0, none⟩) hfb).trans f0
  have g3 := (hb1.cell (p := ⟨fb, 1, none⟩) hfb).trans f1
  clear o0 o1 f0 f1
  have p19 : W1.cell? ⟨w.heap.size, 19, none⟩ = some (.int .u64 0) := Joins.cell_of_block hpb 19
  have p20 : W1.cell? ⟨w.heap.size, 20, none⟩ = some (.int .i64 0) := Joins.cell_of_block hpb 20
  have p21 : W1.cell? ⟨w.heap.size, 21, none⟩ = some (.int .u64 0) := Joins.cell_of_block hpb 21
  have p22 : W1.cell? ⟨w.heap.size, 22, none⟩ = some (.int .u64 0) := Joins.cell_of_block hpb 22
  have p24 : W1.cell? ⟨w.heap.size, 24, none⟩ = some (.pointer none) := Joins.cell_of_block hpb 24
  have h19 := Joins.unfrozen_of_block hpb 19
  have h20 := Joins.unfrozen_of_block hpb 20
  have h21 := Joins.unfrozen_of_block hpb 21
  have h22 := Joins.unfrozen_of_block hpb 22
  have h24 := Joins.unfrozen_of_block hpb 24
  have hfp : fb ≠ w.heap.size := by omega
  have hop : ob ≠ w.heap.size := by omega
  have hC : Aside (W1.heap[w.heap.size]? = some (.cells (peer0 rb nb n s) 53 (0, 0)) ∧ Below w.heap.size w W1) := ⟨hpb, hb1⟩
  clear hpb hb1
  refine wp_seq_k fun K2 hK2 => ?_
  have hK2' : Aside (∀ (a : Act) (w : World), _ → K2 a w) := hK2
  clear hK2
  go_wp2
  refine hK2'.out _ _ ?_
  clear hK2'
  refine wp_seq_k fun K3 hK3 => ?_
  have hK3' : Aside (∀ (a : Act) (w : World), _ → K3 a w) := hK3
  clear hK3
  go_wp2
  refine hK3'.out _ _ ?_
  clear hK3'
  refine wp_seq_k fun K4 hK4 => ?_
  have hK4' : Aside (∀ (a : Act) (w : World), _ → K4 a w) := hK4
  clear hK4
  go_wp2
  obtain ⟨W5, hW5⟩ : ∃ W5, ((((W1.setCell ⟨w.heap.size, 19, none⟩ (.int .u64 fn)).setCell ⟨w.heap.size, 20, none⟩ (.int .i64 fm)).setCell ⟨w.heap.size, 21, none⟩ (.int .u64 pm)).setCell ⟨w.heap.size, 22, none⟩ (.int .u64 0)).setCell ⟨w.heap.size, 24, none⟩ (.pointer (some ⟨vb, 0, none⟩)) = W5 := ⟨_, rfl⟩
  rw [hW5]
  obtain ⟨c1, c2⟩ := hC.out
  have hb5 : Below w.heap.size w W5 := by
    rw [← hW5]
    exact ((((c2.setCell (p := ⟨w.heap.size, 19, none⟩) (Nat.le_refl _) _).setCell (p := ⟨w.heap.size, 20, none⟩) (Nat.le_refl _) _).setCell (p := ⟨w.heap.size, 21, none⟩) (Nat.le_refl _) _).setCell (p := ⟨w.heap.size, 22, none⟩) (Nat.le_refl _) _).setCell (p := ⟨w.heap.size, 24, none⟩) (Nat.le_refl _) _
  have hp5 : W5.heap[w.heap.size]? = some (.cells ((((((peer0 rb nb n s).setIfInBounds 19 (.int .u64 fn)).setIfInBounds 20 (.int .i64 fm)).setIfInBounds 21 (.int .u64 pm)).setIfInBounds 22 (.int .u64 0)).setIfInBounds 24 (.pointer (some ⟨vb, 0, none⟩))) 53 (0, 0)) := by
    rw [← hW5]
    exact Joins.block_setCell (i := 24) (Joins.block_setCell (i := 22) (Joins.block_setCell (i := 21) (Joins.block_setCell (i := 20) (Joins.block_setCell (i := 19) c1 _) _) _) _) _
  have hs5 : w.heap.size < W5.heap.size := (Array.getElem?_eq_some_iff.1 hp5).1
  clear hW5
  obtain ⟨z1, z2, z3, z4, z5, z6, z7, z8⟩ := hB.out
  obtain ⟨y1, y2, y3, y4, y5, y6⟩ := hB2.out
  have hkc : ∀ j o, j < w.heap.size → W5.cell? ⟨j, o, none⟩ = w.cell? ⟨j, o, none⟩ := fun j o hj => hb5.cell (p := ⟨j, o, none⟩) hj
  exact hK4'.out _ _ (law_B N n nb s pm cm jm tb L pc nwb w.heap.size chb rb tn tm nm ps pa _ _ _ _ _ w0 W5 hn hs hpm hcm hjp hL hN0 hNw hNr hs5 (by omega) (by omega) (by omega) (by omega) (by omega) (by omega) (by omega) (by omega) hcr hnr (by omega) htr (by omega) hwr
    (tab_below z1 hb5 (by omega)) hp5 rfl rfl rfl rfl rfl rfl rfl rfl rfl ((hb5.block rb hr).trans z2) ((hkc chb 2 hc).trans z3) ((hkc chb 3 hc).trans z4) ((hkc chb 4 hc).trans z5) ((hkc chb 5 hc).trans z6) ((hkc chb 6 hc).trans z7) ((hkc chb 7 hc).trans z8)
    (fun k hk => (hkc nb k hnb).trans (y1 k hk)) ((hkc tb 0 htb).trans y2) ((hkc tb 1 htb).trans y3) ((hkc nwb 0 hnw).trans y4) ((hkc nwb 1 hnw).trans y5)
    (fun j hj => by obtain ⟨bb, oo, e1, e2, e3⟩ := y6 j hj; exact ⟨bb, oo, e1, e2, (hkc bb (oo + j) (by omega)).trans e3⟩) (Hfin.out.trans (hb5.mono hNw)) _ _ _ _ _ _ _ _ _ _ _ _ _ _ _ _ _ _ _ _ _ _ _ _ _ _ _ _ _ _ _ _ _ _ _ _ _ _ _ _ _ _ _ _ _ _ _ _ _ _ _ _ _ _ _ _ _ _ _ _ _ _ _ _ _ _ _ _ _ _ _ _ _ _ _ _ _ _ _ _ _ _ _ _ _ _ _ _ _ _ _ _ _ _ _ _ _ _ _ _ _ _ _ _ _ _ _ _ _ _ _ _ _ _ _ _ _ _ _ _ _ _ _ _ _ _ _ _ _ _ _ _ _ _ _ _ _ _ _ _ _ _ _ _ _ _ _ _ _ _ _ _ _ _ _ _ _ _ _ _ _ _ _ _ _ _ _ _ _ _ _ _ _ _ _ _ _ _ _ _ _ _ _ _ _ _ _ _ _ _ _ _ _ _ _ _ _ _ _ _ _ _ _ _ _ _ _ _ _ _ _ _ _ _ _ _ _ _ _ _ _ _ _ _ _ _ _ _ _ _ _ _ _ _ _ _ _ _ _ _ _ _ _ _ _ _ _ _ _ _ _ _ _ _ _ _ _ _ _ _ _ _ _ _ _ _ _ _ _ _ _ _ _ _ _ _ _ _ _ _ _ _ _ _ _ _ _ _ _ _ _ _ _ _ _ _ _ _ _ _ _ _ _)
end Go.Proofs.YbulkceouDoor
