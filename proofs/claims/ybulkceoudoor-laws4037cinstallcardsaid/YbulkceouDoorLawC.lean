/-
  LawS4037CInstall: the law's look at the rule (seat b4037aD).
-/
import Derived.Test.YbulkceouDoorLawD
namespace Go.Proofs.YbulkceouDoor
open Go.RowKit Go.Shelf

noncomputable def lC : Code := (Ybad.f3.body.bind (fromR 35)).getD .skip

set_option maxRecDepth 100000 in
set_option maxHeartbeats 1000000 in
theorem law_C (N n nb s pm cm y tb g cap L pc K gc nwb pb chb rb FK fc : Nat) (tn tm : Int) (nm ps : Nat → ByteArray) (pa ga fa : Option Addr) (w0 we : World)
    (hn : n ≤ 64) (hs : s < n) (hcm : cm < 2 ^ n) (hK : K = (mem cm).length) (hL : L ≤ 1024) (hN : N ≤ we.heap.size) (hnb : nb < we.heap.size) (htb : tb < we.heap.size)
    (hev : we.rangeAt g (L * 15) (evCells (nm s) tn tm (.slice ga K gc)).toList)
    (t0 : we.cell? ⟨tb, 0, none⟩ = some (.int .u64 tn)) (t1 : we.cell? ⟨tb, 1, none⟩ = some (.int .i64 tm))
    (cells : ∀ j x, (mem cm)[j]? = some x → ∃ g, ga = some ⟨g, 0, none⟩ ∧ g < we.heap.size ∧ we.cell? ⟨g, j, none⟩ = some (.string (nm x)))
    (hnm : ∀ k, k < n → we.cell? ⟨nb, k, none⟩ = some (.string (nm k)))
    (hpre : ∀ j, j < L → ∃ bb oo, pa = some ⟨bb, oo, none⟩ ∧ we.cell? ⟨bb, oo + j, none⟩ = some (.string (ps j)) ∧ we.cell? ⟨g, j * 15 + 1, none⟩ = some (.string (ps j)))
    (Hfin : Aside (Below N w0 we))
    (n0 : we.cell? ⟨nwb, 0, none⟩ = some (.int .u64 cm)) (n1 : we.cell? ⟨nwb, 1, none⟩ = some (.int .u64 0))
    (p19 : we.cell? ⟨pb, 19, none⟩ = some (.int .u64 tn)) (p20 : we.cell? ⟨pb, 20, none⟩ = some (.int .i64 tm)) (p21 : we.cell? ⟨pb, 21, none⟩ = some (.int .u64 cm)) (p22 : we.cell? ⟨pb, 22, none⟩ = some (.int .u64 0)) (p23 : we.cell? ⟨pb, 23, none⟩ = some (.pointer (some ⟨chb, 0, none⟩))) (p24 : we.cell? ⟨pb, 24, none⟩ = some (.pointer none))
    (hpm : pm < 2 ^ n) (hy : y < 2 ^ 64) (hyb : ∀ i, i < 64 → y.testBit i = (pm.testBit i && !cm.testBit i)) (hFK : FK = (mem y).length)
    (r0 : we.cell? ⟨rb, 0, none⟩ = some (.slice fa FK fc)) (r1 : we.cell? ⟨rb, 1, none⟩ = some (.int .i64 0))
    (fcells : ∀ j x : Nat, (mem y)[j]? = some x → ∃ g, fa = some ⟨g, 0, none⟩ ∧ we.cell? ⟨g, j, none⟩ = some (.int .i64 x)) (c0 c1 c4 c5 c6 c8 c9 c10 c11 c12 c13 c14 c15 c16 c19 c20 c22 c24 c26 c30 c31 c33 c34 c35 c36 c37 c38 c39 c40 c41 c42 c43 c44 c45 c46 c47 c48 c49 c50 c51 c52 c53 c54 c55 c56 c57 c58 c59 c60 c61 c62 c63 c64 c65 c66 c67 c68 c69 c70 c71 c72 c73 c74 c75 c76 c77 c78 c79 c80 c81 c82 c83 c84 c85 c86 c87 c88 c89 c90 c91 c92 c93 c94 c95 c96 c97 c98 c99 c100 c101 c102 c103 c104 c105 c106 c107 c108 c109 c110 c111 c112 c113 c114 c115 c116 c117 c118 c119 c120 c121 c122 c123 c124 c125 c126 c127 c128 c129 c130 c131 c132 c133 c134 c135 c136 c137 c138 c139 c140 c141 c142 c143 c144 c145 c146 c147 c148 c149 c150 c151 c152 c153 c154 c155 c156 c157 c158 c159 c160 c161 c162 c163 c164 c165 c166 c167 c168 c169 c170 c171 c172 c173 c174 c175 c176 c177 c178 c179 c180 c181 c182 c183 c184 c185 c186 c187 c188 c189 c190 c191 c192 c193 c194 c195 c196 c197 c198 c199 c200 c201 c202 c203 c204 c205 c206 c207 c208 c209 c210 c211 c212 c213 c214 c215 c216 c217 c218 c219 c220 c221 c222 c223 c224 c225 c226 c227 c228 c229 c230 c231 c232 c233 c234 c235 c236 c237 c238 c239 c240 c241 c242 c243 c244 c245 c246 c247 c248 c249 c250 c251 c252 c253 c254 c255 c256 c257 c258 c259 c260 c261 c262 c263 c264 c265 c266 c267 c268 c269 c270 c271 c272 c273 c274 c275 c276 c277 c278 c279 c280 c281 c282 c283 c284 c285 c286 c287 c288 c289 c290 c291 c292 c293 c294 c295 c296 c297 c298 c299 c300 c301 c302 c303 c304 c305 c306 c307 c308 c309 c310 c311 c312 c313 : Value) :
    lC.wp Ybad.prog (bodyPost Ybad.prog Ybad.f3 fun e w' => e = .returned (.bool true) ∧ Below N w0 w') ⟨#[c0, c1, .int .u64 pm, .int .u64 cm, c4, c5, c6, .slice pa L pc, c8, c9, c10, c11, c12, c13, c14, c15, c16, .int .i64 n, .slice (some ⟨nb, 0, none⟩) n n, c19, c20, .pointer (some ⟨nwb, 0, none⟩), c22, .pointer (some ⟨tb, 0, none⟩), c24, .pointer (some ⟨chb, 0, none⟩), c26, .pointer (some ⟨rb, 0, none⟩), .int .i64 s, .pointer (some ⟨pb, 0, none⟩), c30, c31, .slice (some ⟨g, 0, none⟩) ((L + 1 : Nat)) cap, c33, c34, c35, c36, c37, c38, c39, c40, c41, c42, c43, c44, c45, c46, c47, c48, c49, c50, c51, c52, c53, c54, c55, c56, c57, c58, c59, c60, c61, c62, c63, c64, c65, c66, c67, c68, c69, c70, c71, c72, c73, c74, c75, c76, c77, c78, c79, c80, c81, c82, c83, c84, c85, c86, c87, c88, c89, c90, c91, c92, c93, c94, c95, c96, c97, c98, c99, c100, c101, c102, c103, c104, c105, c106, c107, c108, c109, c110, c111, c112, c113, c114, c115, c116, c117, c118, c119, c120, c121, c122, c123, c124, c125, c126, c127, c128, c129, c130, c131, c132, c133, c134, c135, c136, c137, c138, c139, c140, c141, c142, c143, c144, c145, c146, c147, c148, c149, c150, c151, c152, c153, c154, c155, c156, c157, c158, c159, c160, c161, c162, c163, c164, c165, c166, c167, c168, c169, c170, c171, c172, c173, c174, c175, c176, c177, c178, c179, c180, c181, c182, c183, c184, c185, c186, c187, c188, c189, c190, c191, c192, c193, c194, c195, c196, c197, c198, c199, c200, c201, c202, c203, c204, c205, c206, c207, c208, c209, c210, c211, c212, c213, c214, c215, c216, c217, c218, c219, c220, c221, c222, c223, c224, c225, c226, c227, c228, c229, c230, c231, c232, c233, c234, c235, c236, c237, c238, c239, c240, c241, c242, c243, c244, c245, c246, c247, c248, c249, c250, c251, c252, c253, c254, c255, c256, c257, c258, c259, c260, c261, c262, c263, c264, c265, c266, c267, c268, c269, c270, c271, c272, c273, c274, c275, c276, c277, c278, c279, c280, c281, c282, c283, c284, c285, c286, c287, c288, c289, c290, c291, c292, c293, c294, c295, c296, c297, c298, c299, c300, c301, c302, c303, c304, c305, c306, c307, c308, c309, c310, c311, c312, c313], []⟩ we := by
  conv => arg 2; whnf
  have hB : Aside (K = (mem cm).length ∧ we.rangeAt g (L * 15) (evCells (nm s) tn tm (.slice ga K gc)).toList ∧ (∀ j x, (mem cm)[j]? = some x → ∃ g, ga = some ⟨g, 0, none⟩ ∧ g < we.heap.size ∧ we.cell? ⟨g, j, none⟩ = some (.string (nm x))) ∧ (∀ k, k < n → we.cell? ⟨nb, k, none⟩ = some (.string (nm k))) ∧ (∀ j, j < L → ∃ bb oo, pa = some ⟨bb, oo, none⟩ ∧ we.cell? ⟨bb, oo + j, none⟩ = some (.string (ps j)) ∧ we.cell? ⟨g, j * 15 + 1, none⟩ = some (.string (ps j)))) := ⟨hK, hev, cells, hnm, hpre⟩
  have hB2 : Aside (we.cell? ⟨tb, 0, none⟩ = some (.int .u64 tn) ∧ we.cell? ⟨tb, 1, none⟩ = some (.int .i64 tm) ∧ we.cell? ⟨nwb, 0, none⟩ = some (.int .u64 cm) ∧ we.cell? ⟨nwb, 1, none⟩ = some (.int .u64 0) ∧ we.cell? ⟨pb, 19, none⟩ = some (.int .u64 tn) ∧ we.cell? ⟨pb, 20, none⟩ = some (.int .i64 tm) ∧ we.cell? ⟨pb, 21, none⟩ = some (.int .u64 cm) ∧ we.cell? ⟨pb, 22, none⟩ = some (.int .u64 0) ∧ we.cell? ⟨pb, 23, none⟩ = some (.pointer (some ⟨chb, 0, none⟩)) ∧ we.cell? ⟨pb, 24, none⟩ = some (.pointer none)) := ⟨t0, t1, n0, n1, p19, p20, p21, p22, p23, p24⟩
  clear hK hev t0 t1 cells hnm hpre n0 n1 p19 p20 p21 p22 p23 p24
  have hy2 : y < 2 ^ n := by
    refine Nat.lt_pow_two_of_testBit y fun i hi => ?_
    by_cases h64 : i < 64
    · rw [hyb i h64, Nat.testBit_lt_two_pow (Nat.lt_of_lt_of_le hpm (Nat.pow_le_pow_right (by omega) hi))]; rfl
    · exact Nat.testBit_lt_two_pow (Nat.lt_of_lt_of_le hy (Nat.pow_le_pow_right (by omega) (by omega)))
  have hcm64 : cm < 2 ^ 64 := Nat.lt_of_lt_of_le hcm (Nat.pow_le_pow_right (by omega) hn)
  have hpm64 : pm < 2 ^ 64 := Nat.lt_of_lt_of_le hpm (Nat.pow_le_pow_right (by omega) hn)
  go_wp2
  rename_i Q1 K1 hK1
  have hK1' : Aside (∀ (a : Act) (w : World), _ → K1 a w) := hK1
  clear hK1
  go_loopg [33, 34] (n + 1) (fun q vj vk wx => ∃ k : Nat, vj = .int .i64 (below y k) ∧ vk = .int .i64 k ∧ k ≤ n ∧ n - k < q ∧ wx = we)
  case atStart => exact ⟨0, rfl, rfl, Nat.zero_le _, by omega, rfl⟩
  case round =>
    obtain ⟨k, rfl, rfl, hk, hq, rfl⟩ := hrel
    by_cases hlt : k < n
    · have hlt' : (k : Int) < (n : Int) := by omega
      have hbp := bit_ne pm k (by omega) hpm64
      have hbc := bit_eq cm k (by omega) hcm64
      have hyk := hyb k (by omega)
      clear hyb hB hB2
      cases htp : pm.testBit k with
      | false =>
        rw [htp] at hbp hyk
        clear fcells
        go_wp2
        go_roundg (n - k)
        case measure => omega
        case rel => exact ⟨k + 1, by rw [below_succ, hyk]; rfl, by go_num, by omega, by omega, rfl⟩
      | true =>
        cases htc : cm.testBit k with
        | true =>
          rw [htp] at hbp hyk
          rw [htc] at hbc hyk
          clear fcells
          go_wp2
          go_roundg (n - k)
          case measure => omega
          case rel => exact ⟨k + 1, by rw [below_succ, hyk]; rfl, by go_num, by omega, by omega, rfl⟩
        | false =>
          rw [htp] at hbp hyk
          rw [htc] at hbc hyk
          have hat := mem_at y k (by omega) hyk
          obtain ⟨g0, rfl, hc⟩ := fcells _ _ hat
          have hbl : below y k < FK := by rw [hFK]; exact (List.getElem?_eq_some_iff.1 hat).1
          have hbl' : ((below y k : Nat) : Int) < (FK : Int) := by omega
          have hge : (FK ≤ below y k) = False := by simp; omega
          have hF64 : FK ≤ 64 := by rw [hFK]; exact mem_length y
          clear fcells hFK hat
          go_wp2
          go_roundg (n - k)
          case measure => omega
          case rel => exact ⟨k + 1, by rw [below_succ, hyk]; go_num, by go_num, by omega, by omega, rfl⟩
    · obtain rfl : k = n := by omega
      have hba : below y k = FK := by rw [below_all y k hn hy2, hFK]
      rw [hba]
      clear hFK hyb fcells hba
      go_wp2
      refine hK1'.out _ _ ?_
      clear hK1'
      refine wp_seq_k fun K3 hK3 => ?_
      have hK3' : Aside (∀ (a : Act) (w : World), _ → K3 a w) := hK3
      clear hK3
      go_wp2
      obtain ⟨z1, z2, z3, z4, z5⟩ := hB.out
      obtain ⟨y1, y2, y3, y4, y5, y6, y7, y8, y9, y10⟩ := hB2.out
      exact hK3'.out _ _ (law_D N k nb s cm tb g cap L pc K gc nwb pb chb tn tm nm ps pa ga w0 _ hn hs hcm z1 hL hN hnb htb z2 y1 y2 z3 z4 z5 Hfin y3 y4 y5 y6 y7 y8 y9 y10 _ _ _ _ _ _ _ _ _ _ _ _ _ _ _ _ _ _ _ _ _ _ _ _ _ _ _ _ _ _ _ _ _ _ _ _ _ _ _ _ _ _ _ _ _ _ _ _ _ _ _ _ _ _ _ _ _ _ _ _ _ _ _ _ _ _ _ _ _ _ _ _ _ _ _ _ _ _ _ _ _ _ _ _ _ _ _ _ _ _ _ _ _ _ _ _ _ _ _ _ _ _ _ _ _ _ _ _ _ _ _ _ _ _ _ _ _ _ _ _ _ _ _ _ _ _ _ _ _ _ _ _ _ _ _ _ _ _ _ _ _ _ _ _ _ _ _ _ _ _ _ _ _ _ _ _ _ _ _ _ _ _ _ _ _ _ _ _ _ _ _ _ _ _ _ _ _ _ _ _ _ _ _ _ _ _ _ _ _ _ _ _ _ _ _ _ _ _ _ _ _ _ _ _ _ _ _ _ _ _ _ _ _ _ _ _ _ _ _ _ _ _ _ _ _ _ _ _ _ _ _ _ _ _ _ _ _ _ _ _ _ _ _ _ _ _ _ _ _ _ _ _ _ _ _ _ _ _ _ _ _ _ _ _ _ _ _ _ _ _ _ _ _ _ _ _ _ _ _ _ _ _ _ _ _ _ _ _ _ _ _ _ _ _ _ _ _ _ _ _ _ _ _ _)
end Go.Proofs.YbulkceouDoor
