/-
  LawS4037CInstall: the law's look at the events handed in (seat b4037aD).
-/
import Derived.Test.YbulkceouDoorLawF
namespace Go.Proofs.YbulkceouDoor
open Go.RowKit Go.Shelf

noncomputable def lE : Code := (Ybad.f3.body.bind (fromR 52)).getD .skip

set_option maxRecDepth 100000 in
set_option maxHeartbeats 1000000 in
theorem law_E (N n nb s cm tb g cap L pc K gc : Nat) (tn tm : Int) (nm ps : Nat → ByteArray) (pa ga : Option Addr) (w0 we : World)
    (hn : n ≤ 64) (hs : s < n) (hcm : cm < 2 ^ n) (hK : K = (mem cm).length) (hL : L ≤ 1024) (hN : N ≤ we.heap.size) (hnb : nb < we.heap.size) (htb : tb < we.heap.size)
    (hev : we.rangeAt g (L * 15) (evCells (nm s) tn tm (.slice ga K gc)).toList)
    (t0 : we.cell? ⟨tb, 0, none⟩ = some (.int .u64 tn)) (t1 : we.cell? ⟨tb, 1, none⟩ = some (.int .i64 tm))
    (cells : ∀ j x, (mem cm)[j]? = some x → ∃ g, ga = some ⟨g, 0, none⟩ ∧ g < we.heap.size ∧ we.cell? ⟨g, j, none⟩ = some (.string (nm x)))
    (hnm : ∀ k, k < n → we.cell? ⟨nb, k, none⟩ = some (.string (nm k)))
    (hpre : ∀ j, j < L → ∃ bb oo, pa = some ⟨bb, oo, none⟩ ∧ we.cell? ⟨bb, oo + j, none⟩ = some (.string (ps j)) ∧ we.cell? ⟨g, j * 15 + 1, none⟩ = some (.string (ps j)))
    (Hfin : Aside (Below N w0 we)) (c0 c1 c2 c4 c5 c6 c8 c9 c10 c11 c12 c13 c14 c15 c16 c19 c20 c21 c22 c24 c25 c26 c27 c29 c30 c31 c33 c34 c35 c36 c37 c38 c39 c40 c41 c42 c43 c44 c45 c46 c47 c48 c49 c50 c51 c52 c53 c54 c55 c56 c57 c58 c59 c60 c61 c62 c63 c64 c65 c66 c67 c68 c69 c70 c71 c72 c73 c74 c75 c76 c77 c78 c79 c80 c81 c82 c83 c84 c85 c86 c87 c88 c89 c90 c91 c92 c93 c94 c95 c96 c97 c98 c99 c100 c101 c102 c103 c104 c105 c106 c107 c108 c109 c110 c111 c112 c113 c114 c115 c116 c117 c118 c119 c120 c121 c122 c123 c124 c125 c126 c127 c128 c129 c130 c131 c132 c133 c134 c135 c136 c137 c138 c139 c140 c141 c142 c143 c144 c145 c146 c147 c148 c149 c150 c151 c152 c153 c154 c155 c156 c157 c158 c159 c160 c161 c162 c163 c164 c165 c166 c167 c168 c169 c170 c171 c172 c173 c174 c175 c176 c177 c178 c179 c180 c181 c182 c183 c184 c185 c186 c187 c188 c189 c190 c191 c192 c193 c194 c195 c196 c197 c198 c199 c200 c201 c202 c203 c204 c205 c206 c207 c208 c209 c210 c211 c212 c213 c214 c215 c216 c217 c218 c219 c220 c221 c222 c223 c224 c225 c226 c227 c228 c229 c230 c231 c232 c233 c234 c235 c236 c237 c238 c239 c240 c241 c242 c243 c244 c245 c246 c247 c248 c249 c250 c251 c252 c253 c254 c255 c256 c257 c258 c259 c260 c261 c262 c263 c264 c265 c266 c267 c268 c269 c270 c271 c272 c273 c274 c275 c276 c277 c278 c279 c280 c281 c282 c283 c284 c285 c286 c287 c288 c289 c290 c291 c292 c293 c294 c295 c296 c297 c298 c299 c300 c301 c302 c303 c304 c305 c306 c307 c308 c309 c310 c311 c312 c313 : Value) :
    lE.wp Ybad.prog (bodyPost Ybad.prog Ybad.f3 fun e w' => e = .returned (.bool true) ∧ Below N w0 w') ⟨#[c0, c1, c2, .int .u64 cm, c4, c5, c6, .slice pa L pc, c8, c9, c10, c11, c12, c13, c14, c15, c16, .int .i64 n, .slice (some ⟨nb, 0, none⟩) n n, c19, c20, c21, c22, .pointer (some ⟨tb, 0, none⟩), c24, c25, c26, c27, .int .i64 s, c29, c30, c31, .slice (some ⟨g, 0, none⟩) ((L + 1 : Nat)) cap, c33, c34, c35, c36, c37, c38, c39, c40, c41, c42, c43, c44, c45, c46, c47, c48, c49, c50, c51, c52, c53, c54, c55, c56, c57, c58, c59, c60, c61, c62, c63, c64, c65, c66, c67, c68, c69, c70, c71, c72, c73, c74, c75, c76, c77, c78, c79, c80, c81, c82, c83, c84, c85, c86, c87, c88, c89, c90, c91, c92, c93, c94, c95, c96, c97, c98, c99, c100, c101, c102, c103, c104, c105, c106, c107, c108, c109, c110, c111, c112, c113, c114, c115, c116, c117, c118, c119, c120, c121, c122, c123, c124, c125, c126, c127, c128, c129, c130, c131, c132, c133, c134, c135, c136, c137, c138, c139, c140, c141, c142, c143, c144, c145, c146, c147, c148, c149, c150, c151, c152, c153, c154, c155, c156, c157, c158, c159, c160, c161, c162, c163, c164, c165, c166, c167, c168, c169, c170, c171, c172, c173, c174, c175, c176, c177, c178, c179, c180, c181, c182, c183, c184, c185, c186, c187, c188, c189, c190, c191, c192, c193, c194, c195, c196, c197, c198, c199, c200, c201, c202, c203, c204, c205, c206, c207, c208, c209, c210, c211, c212, c213, c214, c215, c216, c217, c218, c219, c220, c221, c222, c223, c224, c225, c226, c227, c228, c229, c230, c231, c232, c233, c234, c235, c236, c237, c238, c239, c240, c241, c242, c243, c244, c245, c246, c247, c248, c249, c250, c251, c252, c253, c254, c255, c256, c257, c258, c259, c260, c261, c262, c263, c264, c265, c266, c267, c268, c269, c270, c271, c272, c273, c274, c275, c276, c277, c278, c279, c280, c281, c282, c283, c284, c285, c286, c287, c288, c289, c290, c291, c292, c293, c294, c295, c296, c297, c298, c299, c300, c301, c302, c303, c304, c305, c306, c307, c308, c309, c310, c311, c312, c313], []⟩ we := by
  conv => arg 2; whnf
  have hA : Aside (we.rangeAt g (L * 15) (evCells (nm s) tn tm (.slice ga K gc)).toList ∧ we.cell? ⟨tb, 0, none⟩ = some (.int .u64 tn) ∧ we.cell? ⟨tb, 1, none⟩ = some (.int .i64 tm) ∧ (∀ j x, (mem cm)[j]? = some x → ∃ g, ga = some ⟨g, 0, none⟩ ∧ g < we.heap.size ∧ we.cell? ⟨g, j, none⟩ = some (.string (nm x))) ∧ (∀ k, k < n → we.cell? ⟨nb, k, none⟩ = some (.string (nm k))) ∧ K = (mem cm).length) := ⟨hev, t0, t1, cells, hnm, hK⟩
  clear hev t0 t1 cells hnm hK
  go_wp2
  rename_i Q1 K1 hK1
  have hK1' : Aside (∀ (a : Act) (w : World), _ → K1 a w) := hK1
  clear hK1
  go_loopg [232] (L + 1) (fun q vi wx => ∃ j m : Nat, vi = .int .i64 j ∧ j ≤ L ∧ L - j < q ∧ wx = we.drewN m)
  case atStart => exact ⟨0, 0, rfl, Nat.zero_le _, by omega, rfl⟩
  case round =>
    obtain ⟨j, m, rfl, hj, hq, rfl⟩ := hrel
    by_cases hjl : j < L
    · obtain ⟨bb, oo, rfl, hp1, hp2⟩ := hpre j hjl
      have hjl' : (j : Int) < (L : Int) := by omega
      have hjl2 : (j : Int) < ((L + 1 : Nat) : Int) := by omega
      clear hpre
      go_wp2
      go_quiet (fail)
      go_wp2
      go_roundg (L - j)
      case measure => omega
      case rel => exact ⟨j + 1, _, by go_num, by omega, by omega, rfl⟩
    · go_wp2
      obtain ⟨a1, a2, a3, a4, a5, a6⟩ := hA.out
      exact hK1'.out _ _ (law_F N n nb s cm tb g cap L pc K gc tn tm nm pa ga w0 (we.drewN m) hn hs hcm a6 hL hN hnb htb a1 a2 a3 a4 a5 (Hfin.out.trans (below_drewN _ _ _)) _ _ _ _ _ _ _ _ _ _ _ _ _ _ _ _ _ _ _ _ _ _ _ _ _ _ _ _ _ _ _ _ _ _ _ _ _ _ _ _ _ _ _ _ _ _ _ _ _ _ _ _ _ _ _ _ _ _ _ _ _ _ _ _ _ _ _ _ _ _ _ _ _ _ _ _ _ _ _ _ _ _ _ _ _ _ _ _ _ _ _ _ _ _ _ _ _ _ _ _ _ _ _ _ _ _ _ _ _ _ _ _ _ _ _ _ _ _ _ _ _ _ _ _ _ _ _ _ _ _ _ _ _ _ _ _ _ _ _ _ _ _ _ _ _ _ _ _ _ _ _ _ _ _ _ _ _ _ _ _ _ _ _ _ _ _ _ _ _ _ _ _ _ _ _ _ _ _ _ _ _ _ _ _ _ _ _ _ _ _ _ _ _ _ _ _ _ _ _ _ _ _ _ _ _ _ _ _ _ _ _ _ _ _ _ _ _ _ _ _ _ _ _ _ _ _ _ _ _ _ _ _ _ _ _ _ _ _ _ _ _ _ _ _ _ _ _ _ _ _ _ _ _ _ _ _ _ _ _ _ _ _ _ _ _ _ _ _ _ _ _ _ _ _ _ _ _ _ _ _ _ _ _ _ _ _ _ _ _ _ _ _ _ _ _ _ _ _ _ _ _ _ _ _ _ _ _)
end Go.Proofs.YbulkceouDoor
