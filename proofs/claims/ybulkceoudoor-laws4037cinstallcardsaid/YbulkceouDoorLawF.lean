/-
  LawS4037CInstall: the law's look at the new event (seat b4037aD).
-/
import Derived.Test.YbulkceouDoorLawG
namespace Go.Proofs.YbulkceouDoor
open Go.RowKit Go.Shelf
attribute [local go_sem] foldZ foldO size_evZero evZero_ne size_evCells

/-- An event's fifteen cells, under their name. -/
theorem foldEv (name : ByteArray) (num mb : Int) (ms : Value) : Value.agg #[.string ⟨#[118, 105, 101, 119]⟩, .string name, .int .u64 num, .int .i64 mb, ms, .pointer none, .int .u64 0, .int .i64 0, .int .u64 0, .int .i64 0, .slice none 0 0, .pointer none, .slice none 0 0, .pointer none, .pointer none] = .agg (evCells name num mb ms) := rfl
attribute [local go_sem] foldEv

noncomputable def lF : Code := (Ybad.f3.body.bind (fromR 58)).getD .skip

set_option linter.unusedSimpArgs false in
set_option maxRecDepth 100000 in
set_option maxHeartbeats 1000000 in
theorem law_F (N n nb s cm tb g cap L pc K gc : Nat) (tn tm : Int) (nm : Nat → ByteArray) (pa ga : Option Addr) (w0 we : World)
    (hn : n ≤ 64) (hs : s < n) (hcm : cm < 2 ^ n) (hK : K = (mem cm).length) (hL : L ≤ 1024) (hN : N ≤ we.heap.size) (hnb : nb < we.heap.size) (htb : tb < we.heap.size)
    (hev : we.rangeAt g (L * 15) (evCells (nm s) tn tm (.slice ga K gc)).toList)
    (t0 : we.cell? ⟨tb, 0, none⟩ = some (.int .u64 tn)) (t1 : we.cell? ⟨tb, 1, none⟩ = some (.int .i64 tm))
    (cells : ∀ j x, (mem cm)[j]? = some x → ∃ g, ga = some ⟨g, 0, none⟩ ∧ g < we.heap.size ∧ we.cell? ⟨g, j, none⟩ = some (.string (nm x)))
    (hnm : ∀ k, k < n → we.cell? ⟨nb, k, none⟩ = some (.string (nm k)))
    (Hfin : Aside (Below N w0 we)) (c0 c1 c2 c4 c5 c6 c8 c9 c10 c11 c12 c13 c14 c15 c16 c19 c20 c21 c22 c24 c25 c26 c27 c29 c30 c31 c33 c34 c35 c36 c37 c38 c39 c40 c41 c42 c43 c44 c45 c46 c47 c48 c49 c50 c51 c52 c53 c54 c55 c56 c57 c58 c59 c60 c61 c62 c63 c64 c65 c66 c67 c68 c69 c70 c71 c72 c73 c74 c75 c76 c77 c78 c79 c80 c81 c82 c83 c84 c85 c86 c87 c88 c89 c90 c91 c92 c93 c94 c95 c96 c97 c98 c99 c100 c101 c102 c103 c104 c105 c106 c107 c108 c109 c110 c111 c112 c113 c114 c115 c116 c117 c118 c119 c120 c121 c122 c123 c124 c125 c126 c127 c128 c129 c130 c131 c132 c133 c134 c135 c136 c137 c138 c139 c140 c141 c142 c143 c144 c145 c146 c147 c148 c149 c150 c151 c152 c153 c154 c155 c156 c157 c158 c159 c160 c161 c162 c163 c164 c165 c166 c167 c168 c169 c170 c171 c172 c173 c174 c175 c176 c177 c178 c179 c180 c181 c182 c183 c184 c185 c186 c187 c188 c189 c190 c191 c192 c193 c194 c195 c196 c197 c198 c199 c200 c201 c202 c203 c204 c205 c206 c207 c208 c209 c210 c211 c212 c213 c214 c215 c216 c217 c218 c219 c220 c221 c222 c223 c224 c225 c226 c227 c228 c229 c230 c231 c232 c233 c234 c235 c236 c237 c238 c239 c240 c241 c242 c243 c244 c245 c246 c247 c248 c249 c250 c251 c252 c253 c254 c255 c256 c257 c258 c259 c260 c261 c262 c263 c264 c265 c266 c267 c268 c269 c270 c271 c272 c273 c274 c275 c276 c277 c278 c279 c280 c281 c282 c283 c284 c285 c286 c287 c288 c289 c290 c291 c292 c293 c294 c295 c296 c297 c298 c299 c300 c301 c302 c303 c304 c305 c306 c307 c308 c309 c310 c311 c312 c313 : Value) :
    lF.wp Ybad.prog (bodyPost Ybad.prog Ybad.f3 fun e w' => e = .returned (.bool true) ∧ Below N w0 w') ⟨#[c0, c1, c2, .int .u64 cm, c4, c5, c6, .slice pa L pc, c8, c9, c10, c11, c12, c13, c14, c15, c16, .int .i64 n, .slice (some ⟨nb, 0, none⟩) n n, c19, c20, c21, c22, .pointer (some ⟨tb, 0, none⟩), c24, c25, c26, c27, .int .i64 s, c29, c30, c31, .slice (some ⟨g, 0, none⟩) ((L + 1 : Nat)) cap, c33, c34, c35, c36, c37, c38, c39, c40, c41, c42, c43, c44, c45, c46, c47, c48, c49, c50, c51, c52, c53, c54, c55, c56, c57, c58, c59, c60, c61, c62, c63, c64, c65, c66, c67, c68, c69, c70, c71, c72, c73, c74, c75, c76, c77, c78, c79, c80, c81, c82, c83, c84, c85, c86, c87, c88, c89, c90, c91, c92, c93, c94, c95, c96, c97, c98, c99, c100, c101, c102, c103, c104, c105, c106, c107, c108, c109, c110, c111, c112, c113, c114, c115, c116, c117, c118, c119, c120, c121, c122, c123, c124, c125, c126, c127, c128, c129, c130, c131, c132, c133, c134, c135, c136, c137, c138, c139, c140, c141, c142, c143, c144, c145, c146, c147, c148, c149, c150, c151, c152, c153, c154, c155, c156, c157, c158, c159, c160, c161, c162, c163, c164, c165, c166, c167, c168, c169, c170, c171, c172, c173, c174, c175, c176, c177, c178, c179, c180, c181, c182, c183, c184, c185, c186, c187, c188, c189, c190, c191, c192, c193, c194, c195, c196, c197, c198, c199, c200, c201, c202, c203, c204, c205, c206, c207, c208, c209, c210, c211, c212, c213, c214, c215, c216, c217, c218, c219, c220, c221, c222, c223, c224, c225, c226, c227, c228, c229, c230, c231, c232, c233, c234, c235, c236, c237, c238, c239, c240, c241, c242, c243, c244, c245, c246, c247, c248, c249, c250, c251, c252, c253, c254, c255, c256, c257, c258, c259, c260, c261, c262, c263, c264, c265, c266, c267, c268, c269, c270, c271, c272, c273, c274, c275, c276, c277, c278, c279, c280, c281, c282, c283, c284, c285, c286, c287, c288, c289, c290, c291, c292, c293, c294, c295, c296, c297, c298, c299, c300, c301, c302, c303, c304, c305, c306, c307, c308, c309, c310, c311, c312, c313], []⟩ we := by
  conv => arg 2; whnf
  have hlt : (L : Int) < ((L + 1 : Nat) : Int) := by omega
  have h0 : we.cell? ⟨g, L * 15, none⟩ = some (.string ⟨#[118, 105, 101, 119]⟩) := hev 0 _ rfl
  have h1 : we.cell? ⟨g, L * 15 + 1, none⟩ = some (.string (nm s)) := hev 1 _ rfl
  have h2 : we.cell? ⟨g, L * 15 + 2, none⟩ = some (.int .u64 tn) := hev 2 _ rfl
  have h3 : we.cell? ⟨g, L * 15 + 3, none⟩ = some (.int .i64 tm) := hev 3 _ rfl
  have h4 : we.cell? ⟨g, L * 15 + 4, none⟩ = some (.slice ga K gc) := hev 4 _ rfl
  have h5 : we.cell? ⟨g, L * 15 + 5, none⟩ = some (.pointer none) := hev 5 _ rfl
  have h6 : we.cell? ⟨g, L * 15 + 6, none⟩ = some (.int .u64 0) := hev 6 _ rfl
  have h7 : we.cell? ⟨g, L * 15 + 7, none⟩ = some (.int .i64 0) := hev 7 _ rfl
  have h8 : we.cell? ⟨g, L * 15 + 8, none⟩ = some (.int .u64 0) := hev 8 _ rfl
  have h9 : we.cell? ⟨g, L * 15 + 9, none⟩ = some (.int .i64 0) := hev 9 _ rfl
  have h10 : we.cell? ⟨g, L * 15 + 10, none⟩ = some (.slice none 0 0) := hev 10 _ rfl
  have h11 : we.cell? ⟨g, L * 15 + 11, none⟩ = some (.pointer none) := hev 11 _ rfl
  have h12 : we.cell? ⟨g, L * 15 + 12, none⟩ = some (.slice none 0 0) := hev 12 _ rfl
  have h13 : we.cell? ⟨g, L * 15 + 13, none⟩ = some (.pointer none) := hev 13 _ rfl
  have h14 : we.cell? ⟨g, L * 15 + 14, none⟩ = some (.pointer none) := hev 14 _ rfl
  have hst : Sem.run Ybad.prog (storeCells ⟨we.heap.size, 0, none⟩ (evCells (nm s) tn tm (.slice ga K gc)).toList) (we.alloc (.cells evZero 62)) = .ok () ((we.alloc (.cells evZero 62)).setCells we.heap.size 0 (evCells (nm s) tn tm (.slice ga K gc)).toList) :=
    store_ev_of _ _ _ _ _ _ rfl evZero (by rw [alloc_at, if_pos rfl]) rfl
  have hA : Aside (we.rangeAt g (L * 15) (evCells (nm s) tn tm (.slice ga K gc)).toList ∧ (∀ j x, (mem cm)[j]? = some x → ∃ g, ga = some ⟨g, 0, none⟩ ∧ g < we.heap.size ∧ we.cell? ⟨g, j, none⟩ = some (.string (nm x))) ∧ (∀ k, k < n → we.cell? ⟨nb, k, none⟩ = some (.string (nm k))) ∧ K = (mem cm).length) := ⟨hev, cells, hnm, hK⟩
  clear hev cells hnm hK
  go_wp2
  have hfr := setCells_frame we.heap.size (evCells (nm s) tn tm (.slice ga K gc)).toList 0 (we.alloc (.cells evZero 62))
  have hev2 : ((we.alloc (.cells evZero 62)).setCells we.heap.size 0 (evCells (nm s) tn tm (.slice ga K gc)).toList).heap[we.heap.size]? = some (.cells (evCells (nm s) tn tm (.slice ga K gc)) 62 (0, 0)) := put_ev _ _ _ _ _ _ evZero (by rw [alloc_at, if_pos rfl]) rfl
  obtain ⟨W2, hW2⟩ : ∃ W2, (we.alloc (.cells evZero 62)).setCells we.heap.size 0 (evCells (nm s) tn tm (.slice ga K gc)).toList = W2 := ⟨_, rfl⟩
  rw [hW2] at hfr hev2
  rw [hW2]
  obtain ⟨a1, a2, a3, a4⟩ := hA.out
  have hsame : ∀ j, j < we.heap.size → W2.heap[j]? = we.heap[j]? := fun j hj => (hfr.2.2.2.2 j (by omega)).trans (Below.heap_alloc _ _ _ hj)
  have hcell : ∀ j o, j < we.heap.size → W2.cell? ⟨j, o, none⟩ = we.cell? ⟨j, o, none⟩ := fun j o hj => World.cell?_of_block (hsame j hj)
  have hb2 : Below N we W2 := ⟨by rw [hfr.1]; rfl, by rw [hfr.2.1]; rfl, by rw [hfr.2.2.1]; rfl, by rw [hfr.2.2.2.1]; simp, fun k hk => hsame k (by omega)⟩
  have hF : Aside (Below N w0 W2) := Hfin.out.trans hb2
  have hA2 : Aside ((∀ j x, (mem cm)[j]? = some x → ∃ g, ga = some ⟨g, 0, none⟩ ∧ W2.cell? ⟨g, j, none⟩ = some (.string (nm x))) ∧ (∀ k, k < n → W2.cell? ⟨nb, k, none⟩ = some (.string (nm k))) ∧ K = (mem cm).length) :=
    ⟨fun j x hj => by obtain ⟨g, e1, e2, e3⟩ := a2 j x hj; exact ⟨g, e1, (hcell g j e2).trans e3⟩, fun k hk => (hcell nb k hnb).trans (a3 k hk), a4⟩
  have hns := (hcell nb s hnb).trans (a3 s hs)
  have hs' : (s : Int) < (n : Int) := by omega
  have t0' := (hcell tb 0 htb).trans t0
  have t1' := (hcell tb 1 htb).trans t1
  have ec : ∀ i, W2.cell? ⟨we.heap.size, i, none⟩ = (evCells (nm s) tn tm (.slice ga K gc))[i]? := fun i => Joins.cell_of_block hev2 i
  have e0 : W2.cell? ⟨we.heap.size, 0, none⟩ = some (.string ⟨#[118, 105, 101, 119]⟩) := ec 0
  have e1 : W2.cell? ⟨we.heap.size, 1, none⟩ = some (.string (nm s)) := ec 1
  have e2 : W2.cell? ⟨we.heap.size, 2, none⟩ = some (.int .u64 tn) := ec 2
  have e3 : W2.cell? ⟨we.heap.size, 3, none⟩ = some (.int .i64 tm) := ec 3
  have e4 : W2.cell? ⟨we.heap.size, 4, none⟩ = some (.slice ga K gc) := ec 4
  have e5 : W2.cell? ⟨we.heap.size, 5, none⟩ = some (.pointer none) := ec 5
  have e10 : W2.cell? ⟨we.heap.size, 10, none⟩ = some (.slice none 0 0) := ec 10
  have e12 : W2.cell? ⟨we.heap.size, 12, none⟩ = some (.slice none 0 0) := ec 12
  clear hA a1 a2 a3 a4 hfr hev2 hW2 hsame hcell ec hb2 hst h0 h1 h2 h3 h4 h5 h6 h7 h8 h9 h10 h11 h12 h13 h14 t0 t1 hlt
  generalize hgen : we.heap.size = eb at *
  go_quiet (fail)
  rename_i Q1 K1 hK1 K2 hK2
  have hK1' : Aside (∀ (a : Act) (w : World), _ → K1 a w) := hK1
  clear hK1
  go_wp2
  obtain ⟨b1, b2, b3⟩ := hA2.out
  exact hK1'.out _ _ (law_G N n nb cm eb K gc nm ga w0 (W2.drewN nq) hn hcm b3 e4 b1 b2 (hF.out.trans (below_drewN _ _ _)) _ _ _ _ _ _ _ _ _ _ _ _ _ _ _ _ _ _ _ _ _ _ _ _ _ _ _ _ _ _ _ _ _ _ _ _ _ _ _ _ _ _ _ _ _ _ _ _ _ _ _ _ _ _ _ _ _ _ _ _ _ _ _ _ _ _ _ _ _ _ _ _ _ _ _ _ _ _ _ _ _ _ _ _ _ _ _ _ _ _ _ _ _ _ _ _ _ _ _ _ _ _ _ _ _ _ _ _ _ _ _ _ _ _ _ _ _ _ _ _ _ _ _ _ _ _ _ _ _ _ _ _ _ _ _ _ _ _ _ _ _ _ _ _ _ _ _ _ _ _ _ _ _ _ _ _ _ _ _ _ _ _ _ _ _ _ _ _ _ _ _ _ _ _ _ _ _ _ _ _ _ _ _ _ _ _ _ _ _ _ _ _ _ _ _ _ _ _ _ _ _ _ _ _ _ _ _ _ _ _ _ _ _ _ _ _ _ _ _ _ _ _ _ _ _ _ _ _ _ _ _ _ _ _ _ _ _ _ _ _ _ _ _ _ _ _ _ _ _ _ _ _ _ _ _ _ _ _ _ _ _ _ _ _ _ _ _ _ _ _ _ _ _ _ _ _ _ _ _ _ _ _ _ _ _ _ _ _ _ _ _ _ _ _ _ _ _ _ _ _ _ _ _ _ _ _ _ _ _ _)
end Go.Proofs.YbulkceouDoor
